import PyProof.Rows.All
import Wide.All
import OpenK.AllK
import Wide.FinOn
import PySem.Challenge.RW_mj0065_01
set_option Elab.async false
set_option compiler.extract_closed false

section
open PySem PySem.W PyProof.Rows
namespace Mine
set_option maxRecDepth 100000 in
set_option maxHeartbeats 8000000 in
open_top hd for PySem.Challenge.rw_mj0065_01
end Mine
end

section
open PySem PySem.W PyProof.Rows PySem.Calls
set_option maxRecDepth 100000
namespace Mine

noncomputable abbrev LOOSE : List Str := looseW Mine.hd.view_39 [Str.ofString "b2a_base64", Str.ofString "_NO_SEP", Str.ofString "b2a_hex", Str.ofString "hexlify", Str.ofString "b64encode", Str.ofString "_urlsafe_encode_translation"]

/-- every object stays -/
def Keeps (h h' : Heap) : Prop := ∀ b o, h.get? b = some o → h'.get? b = some o
theorem Keeps.refl (h : Heap) : Keeps h h := fun _ _ e => e
theorem Keeps.trans {a b c : Heap} (x : Keeps a b) (y : Keeps b c) : Keeps a c := fun p o e => y p o (x p o e)

/-- where a call stands: no exception is handled, the stack is known -/
abbrev At (dp un : Nat) (gd : Option (List Code)) (outer : List Env) : Around := { handled := none, depth := dp, frames := some outer, guards := gd, units := un }

/-- a def's contract: from any caller, whatever stands stays, and what comes back is as Post says -/
def Spec (w : World) (n : Nat) (f : Addr) (vs : List Value) (kw : List (Str × Value)) (Pre : Heap → Prop) (Post : Heap → Heap → Value → Prop) : Prop :=
  ∀ (mean : ExcName → Option Value) (mg mb : Str → Option Value) (dp un : Nat) (gd : Option (List Code)) (base : Heap) (outer : List Env) (s : Shared) (Q E : Value → Shared → Prop),
    Below (At dp un gd outer) base outer s.heap → (Mine.hd.heap_39 w.params).In s.heap → Top Mine.hd.view_39 LOOSE mean mg mb s.heap → dp + n < recursionLimit → un + 8 * n < cLine → Pre s.heap →
    (∀ r h' tk', Keeps s.heap h' → Post s.heap h' r → Q r { s with heap := h', toks := tk' }) →
    wpAny (model PySem.Challenge.rw_mj0065_01.row.prog w) (At dp un gd outer) (call (.ref f) vs kw) Q E s

section
variable {w : World} {A : Around} {base : Heap} {outer : List Env} {s : Shared} {mean : ExcName → Option Value} {mg mb : Str → Option Value} {Q E : Value → Shared → Prop}

/-- into the def's body: the caller's heap is the base of its frame -/
theorem enter {name qual : Str} {params : Arguments} {body : List Stmt} {scope : Scope} {dV kV doc pm cdv ct oc : Value} {an od : Option Addr} {osl : Array (Option Value)} {f : Addr} {vs : List Value} {kw : List (Str × Value)} {binds : List (Str × Value)}
    (X : (Mine.hd.heap_39 w.params).In s.heap) (T : Top Mine.hd.view_39 LOOSE mean mg mb s.heap)
    (ho : (Mine.hd.heap_39 w.params).lookup f = some ⟨oc, od, .func (fnOf name qual params body scope dV kV doc pm an cdv ct), osl⟩) (hcd : codeIn (Mine.hd.heap_39 w.params) cdv qual = true) (hroom : A.depth < recursionLimit)
    (hbind : BindsTo s (fnOf name qual params body scope dV kV doc pm an cdv ct) ⟨vs, kw⟩ binds) (hloc : ∀ y ∈ binds, scope.names.lookup y.1 = some .local)
    (h : ∀ L h₁, Fr s.heap L h₁ (fun y => binds.reverse.lookup y) → News s.heap L h₁ [] →
      wpAny (model PySem.Challenge.rw_mj0065_01.row.prog w) (A.deeper (envOf qual scope L f cdv)) (execs body (envOf qual scope L f cdv))
        (fun fl s' => Q (match fl with | .ret v => v | _ => .none) s')
        (fun e s' => wpAny (model PySem.Challenge.rw_mj0065_01.row.prog w) (A.deeper (envOf qual scope L f cdv)) (leaving (envOf qual scope L f cdv) e) (fun _ s'' => E e s'') (fun e' s'' => E e' s'') s')
        { s with heap := h₁, toks := s.toks + binds.length })
    (hco : scope.isCoroutine = false) (hgen : scope.isGenerator = false) (hk : scope.kind = .function)
    (hcell : ∀ x ∈ scope.names, x.2 ≠ .cell) : wpAny (model PySem.Challenge.rw_mj0065_01.row.prog w) A (call (.ref f) vs kw) Q E s := by
  refine wpAny_call (codeAny_call_def (fd := fnX name qual params body scope [] dV kV doc pm an cdv ct) (body := body) (binds := binds) hroom (X _ _ ho) rfl T.nolimit (codeRec_of X hcd) rfl hbind hcell hloc (fun h₁ hns hk₁ => ?_) hco hgen hk)
  exact h s.heap.objs.size h₁ ⟨hns, hk₁, Nat.le_refl _⟩ News.nil

/-- into the body of a def whose names are caught by a comprehension -/
theorem enterC {name qual : Str} {params : Arguments} {body : List Stmt} {scope : Scope} {dV kV doc pm cdv ct oc : Value} {an od : Option Addr} {osl : Array (Option Value)} {f : Addr} {vs : List Value} {kw : List (Str × Value)} {binds : List (Str × Value)}
    (X : (Mine.hd.heap_39 w.params).In s.heap) (T : Top Mine.hd.view_39 LOOSE mean mg mb s.heap)
    (ho : (Mine.hd.heap_39 w.params).lookup f = some ⟨oc, od, .func (fnOf name qual params body scope dV kV doc pm an cdv ct), osl⟩) (hcd : codeIn (Mine.hd.heap_39 w.params) cdv qual = true) (hroom : A.depth < recursionLimit)
    (hbind : BindsTo s (fnOf name qual params body scope dV kV doc pm an cdv ct) ⟨vs, kw⟩ binds)
    (hkind : (binds.all fun y => scope.names.lookup y.1 == some .local || scope.names.lookup y.1 == some .cell) = true)
    (hnd : ((cellsFrom 0 scope.names []).map (·.1)).Nodup)
    (h : ∀ L h₁ tk cells, Fr s.heap L h₁ (bindL (envOfC qual scope L f cdv).kindOf binds fun _ => none) → News s.heap L h₁ (cells ++ []) →
      CellsAre (bindC (envOfC qual scope L f cdv).kindOf binds fun _ => none) (cellsFrom (L + 1) scope.names []) cells →
      wpAny (model PySem.Challenge.rw_mj0065_01.row.prog w) (A.deeper (envOfC qual scope L f cdv)) (execs body (envOfC qual scope L f cdv))
        (fun fl s' => Q (match fl with | .ret v => v | _ => .none) s')
        (fun e s' => wpAny (model PySem.Challenge.rw_mj0065_01.row.prog w) (A.deeper (envOfC qual scope L f cdv)) (leaving (envOfC qual scope L f cdv) e) (fun _ s'' => E e s'') (fun e' s'' => E e' s'') s')
        { s with heap := h₁, toks := tk })
    (hco : scope.isCoroutine = false) (hgen : scope.isGenerator = false) (hk : scope.kind = .function) : wpAny (model PySem.Challenge.rw_mj0065_01.row.prog w) A (call (.ref f) vs kw) Q E s := by
  refine wpAny_call (codeAny_call_function hroom (X _ _ ho) rfl hco hgen rfl (codeRec_of X hcd) (hbind _ _ _ _ ?_))
  refine wpAny_newFunctionEnv_cells hk (kindsX hkind _) fun env' he s' x => ?_
  subst he
  refine ⟨T.nolimit.keeps x.toInCall.keep, codeAny_func ?_⟩
  obtain ⟨h₁, tk, rfl, _⟩ := x.done
  have hk₁ := x.toInCall.keep
  obtain ⟨cells, NC, Y⟩ := Cl.news (h₀ := s.heap) (Nat.le_refl _) fun n c hm => ⟨x.cell n c (lookup_of_mem_nodup (cellsFrom_names scope.names 0 (s.heap.objs.size + 1) [] [] rfl ▸ hnd) hm), x.above n c hm⟩
  exact h s.heap.objs.size h₁ tk cells ⟨x.toInCall.ns, hk₁, Nat.le_refl _⟩ (by rw [List.append_nil]; exact NC) Y

/-- out of a caller's frame -/
theorem use {A₀ : Around} {dp un : Nat} {gd : Option (List Code)} {h₀ : Heap} {L : Addr} {m : Str → Option Value} {news : List (Addr × Obj)} {env : Env} {n : Nat} {f : Addr} {vs : List Value} {kw : List (Str × Value)} {Pre : Heap → Prop} {Post : Heap → Heap → Value → Prop}
    (C : Spec w n f vs kw Pre Post) (B : Below A₀ base outer h₀) (F : Fr h₀ L s.heap m) (X : (Mine.hd.heap_39 w.params).In h₀) (N : News h₀ L s.heap news) (T : Top Mine.hd.view_39 LOOSE mean mg mb h₀) (hf : env.frame = some L) (hk : env.scope.kind = .function)
    (hd : dp + n < recursionLimit) (hu : un + 8 * n < cLine) (hp : Pre s.heap)
    (ret : ∀ r h' tk', Fr h₀ L h' m → News h₀ L h' news → Keeps s.heap h' → Post s.heap h' r → Q r { s with heap := h', toks := tk' }) :
    wpAny (model PySem.Challenge.rw_mj0065_01.row.prog w) (At dp un gd (env :: outer)) (call (.ref f) vs kw) Q E s :=
  C mean mg mb dp un gd base _ s Q E ⟨rfl, fun b o e => F.keep b o (B.stays b o e), (pushX B F hf hk).frames⟩ (X.keeps F.keep) (T.keeps F.keep) hd hu hp fun r h' tk' k p => ret r h' tk' (F.keeps k) (N.grown k) k p
theorem room_d {d N k : Nat} (h : d + N < recursionLimit) (hk : k + 1 ≤ N) : d + 1 + k < recursionLimit := by omega
theorem room_u {d N k : Nat} (h : d + 8 * N < cLine) (hk : k + 1 ≤ N) : d + 3 + 8 * k < cLine := by omega
/-- `use`, its sides closed by the walk's own words -/
theorem useA {A₀ : Around} {dp un : Nat} {gd : Option (List Code)} {h₀ : Heap} {L : Addr} {m : Str → Option Value} {news : List (Addr × Obj)} {env : Env} {n : Nat} {f : Addr} {vs : List Value} {kw : List (Str × Value)} {Pre : Heap → Prop} {Post : Heap → Heap → Value → Prop}
    (C : Spec w n f vs kw Pre Post) (ret : ∀ r h' tk', Fr h₀ L h' m → News h₀ L h' news → Keeps s.heap h' → Post s.heap h' r → Q r { s with heap := h', toks := tk' })
    (B : Below A₀ base outer h₀ := by k_asm) (F : Fr h₀ L s.heap m := by k_asm) (X : (Mine.hd.heap_39 w.params).In h₀ := by k_asm) (N : News h₀ L s.heap news := by k_asm) (T : Top Mine.hd.view_39 LOOSE mean mg mb h₀ := by k_asm) (hf : env.frame = some L := by exact rfl) (hk : env.scope.kind = .function := by exact rfl)
    (hd : dp + n < recursionLimit := by first | exact room_d (by with_reducible assumption) (by decide) | ((try dsimp only [At, Around.deeper]); omega)) (hu : un + 8 * n < cLine := by first | exact room_u (by with_reducible assumption) (by decide) | ((try dsimp only [At, Around.deeper]); omega)) (hp : Pre s.heap := by trivial) :
    wpAny (model PySem.Challenge.rw_mj0065_01.row.prog w) (At dp un gd (env :: outer)) (call (.ref f) vs kw) Q E s := use C B F X N T hf hk hd hu hp ret
end

end Mine
end

section
open PySem PySem.W PyProof.Rows PySem.Calls
set_option maxRecDepth 100000
set_option maxHeartbeats 8000000
namespace Mine
theorem p256_cases {k : Int} (h : k < 4) : (256 : Int) ^ k.toNat = 1 ∨ (256 : Int) ^ k.toNat = 256 ∨ (256 : Int) ^ k.toNat = 65536 ∨ (256 : Int) ^ k.toNat = 16777216 := by
  have : k.toNat = 0 ∨ k.toNat = 1 ∨ k.toNat = 2 ∨ k.toNat = 3 := by omega
  rcases this with e | e | e | e <;> rw [e] <;> simp
theorem p256_ne {k : Int} (h : k < 4) : (256 : Int) ^ k.toNat ≠ 0 := by rcases p256_cases h with e | e | e | e <;> rw [e] <;> decide
theorem p256_small {k : Int} (h : k < 4) : ((256 : Int) ^ k.toNat).natAbs < 1073741824 := by rcases p256_cases h with e | e | e | e <;> rw [e] <;> decide
/-- the alphabet's octets -/
def b64L : List UInt8 := [65, 66, 67, 68, 69, 70, 71, 72, 73, 74, 75, 76, 77, 78, 79, 80, 81, 82, 83, 84, 85, 86, 87, 88, 89, 90, 97, 98, 99, 100, 101, 102, 103, 104, 105, 106, 107, 108, 109, 110, 111, 112, 113, 114, 115, 116, 117, 118, 119, 120, 121, 122, 48, 49, 50, 51, 52, 53, 54, 55, 56, 57, 43, 47]
def b64c (i : Int) : Int := ((b64L.getD i.toNat 0).toNat : Int)
theorem b64_item {prog : Program} {w : World} {A : Around} {E : Value → Shared → Prop} {s : Shared} {value slice : PySem.Expr} {t ui : Tok} {i : Int} {Q : Value → Shared → Prop} (h0 : 0 ≤ i) (h1 : i < 64)
    (h : ∀ t' k, 0 ≤ b64c i → b64c i < 256 → Q (.int (b64c i) t') { s with toks := k })
    (hs : subscripted slice false (.bytes b64L.toArray t) (.int i ui) = operate [.bytes b64L.toArray t, .int i ui] (getItem (.bytes b64L.toArray t) (.int i ui)))
    (ht : ∀ r, letTemporaryGo value (.bytes b64L.toArray t) r = pure ()) : wpAny (model prog w) A (subscriptTail value slice (.bytes b64L.toArray t) (.int i ui)) Q E s := by
  refine KBy.item_N (x := b64L) (by decide) h0 (by exact h1) (h _ _ ?_ ?_) hs ht
  · exact Int.natCast_nonneg _
  · have := (b64L.getD i.toNat 0).toNat_lt
    simp only [b64c]; omega
theorem in_nil : KBa.In [] := fun _ h => nomatch h
theorem in_cons {x : Int} {r : List Int} (h0 : 0 ≤ x) (h1 : x < 256) (h : KBa.In r) : KBa.In (x :: r) := fun n hn => by
  rcases List.mem_cons.mp hn with rfl | hn
  · exact ⟨h0, h1⟩
  · exact h n hn
section
variable {M : Model} {A : Around} {E : Value → Shared → Prop} {s : Shared} {cn : Str} {cs : Scope} {L a : Addr} {ccd : Value} {cl : List (Str × Addr)} {h₀ : Heap} {m : Str → Option Value} {news : List (Addr × Obj)} {x : Str} {Q : Unit → Shared → Prop}
theorem storeI {e : Int} {tok : Tok} (F : Fr h₀ L s.heap m) (N : News h₀ L s.heap news)
    (h : ∀ h' t tk, Fr h₀ L h' (fun y => if y = x then some (.int e t) else m y) → News h₀ L h' news → Q () { s with heap := h', toks := tk })
    (hk : cs.kind = .function) (hl : (envX cn cs L a ccd cl).kindOf x = some .local) : wpAny M A (storeName (envX cn cs L a ccd cl) x (.int e tok)) Q E s :=
  storeX_L F N (fun h' F' N' => h h' tok _ F' N') hk hl
theorem storeS {e : Str} {tok : Tok} (F : Fr h₀ L s.heap m) (N : News h₀ L s.heap news)
    (h : ∀ h' t tk, Fr h₀ L h' (fun y => if y = x then some (.str e t) else m y) → News h₀ L h' news → Q () { s with heap := h', toks := tk })
    (hk : cs.kind = .function) (hl : (envX cn cs L a ccd cl).kindOf x = some .local) : wpAny M A (storeName (envX cn cs L a ccd cl) x (.str e tok)) Q E s :=
  storeX_L F N (fun h' F' N' => h h' tok _ F' N') hk hl
theorem storeB {e : Array UInt8} {tok : Tok} (F : Fr h₀ L s.heap m) (N : News h₀ L s.heap news)
    (h : ∀ h' t tk, Fr h₀ L h' (fun y => if y = x then some (.bytes e t) else m y) → News h₀ L h' news → Q () { s with heap := h', toks := tk })
    (hk : cs.kind = .function) (hl : (envX cn cs L a ccd cl).kindOf x = some .local) : wpAny M A (storeName (envX cn cs L a ccd cl) x (.bytes e tok)) Q E s :=
  storeX_L F N (fun h' F' N' => h h' tok _ F' N') hk hl
end
theorem ia_push {items : Array Value} {ns : List Int} {a : Int} {t : Tok} (h : IntsAre items.toList ns) : IntsAre (items.push (.int a t)).toList (ns ++ [a]) := by
  rw [Array.toList_push]
  generalize items.toList = vs at h
  induction h with
  | nil => exact .cons _ _ .nil
  | cons n t _ ih => exact .cons _ _ ih
theorem ia_nil : IntsAre (#[] : Array Value).toList [] := .nil
theorem in_push {x : Int} {r : List Int} (h : KBa.In r) (h0 : 0 ≤ x) (h1 : x < 256) : KBa.In (r ++ [x]) := fun n hn => by
  rcases List.mem_append.mp hn with hn | hn
  · exact h n hn
  · rw [List.mem_singleton.mp hn]; exact ⟨h0, h1⟩
theorem bytes_push {prog : Program} {w : World} {A : Around} {E : Value → Shared → Prop} {s : Shared} {h₀ : Heap} {L D : Addr} {m : Str → Option Value} {news : List (Addr × Obj)} {items : Array Value} {n : Nat} {ns : List Int} {Q : Value → Shared → Prop}
    (F : Fr h₀ L s.heap m) (N : News h₀ L s.heap news) (hh : A.handled = none) (hm : (D, W.listOf items n) ∈ news) (hi : IntsAre items.toList ns) (hr : KBa.In ns) (hn : ns.length ≤ 16777216)
    (h : ∀ h' t' k, Fr h₀ L h' m → News h₀ L h' news → Q (.bytes (byteArr ns) t') { s with heap := h', toks := k }) : wpAny (model prog w) A (call (.type "bytes") [.ref D]) Q E s :=
  KBa.make_K F N hh (vs := items.toList) (by rw [Array.toArray_toList]; exact News.isList N hm) hi hr hn fun h' t' k F' N' _ => h h' t' k F' N'

theorem bitOr_sh {x a : Int} (hx : 0 ≤ x) (ha : 0 ≤ a ∧ a < 256) : Builtin.bitOr (x * 2 ^ Int.toNat 8) a = x * 256 + a := by
  have e0 : (2 : Int) ^ Int.toNat 8 = 256 := by decide
  rw [e0, bitOr_and, bitAnd_pp (by omega) ha.1]
  obtain ⟨n, rfl⟩ := Int.eq_ofNat_of_zero_le hx
  obtain ⟨k, rfl⟩ := Int.eq_ofNat_of_zero_le ha.1
  have hk : k < 2 ^ 8 := by have := ha.2; omega
  have e1 : (((n : Nat) : Int) * 256).toNat = n <<< 8 := by rw [Nat.shiftLeft_eq]; omega
  have e2 := Nat.shiftLeft_add_eq_or_of_lt hk n
  have e3 := nat_or_add_and (n <<< 8) k
  have e4 : (n <<< 8) &&& k = 0 := by omega
  rw [e1, Int.toNat_natCast, e4]
  omega
theorem lc1 {a : Int} (ha : 0 ≤ a ∧ a < 256) : Builtin.bitAnd (Builtin.bitOr (0 * 2 ^ Int.toNat 8) a) 65535 = a := by rw [bitOr_sh (by decide) ha, bitAnd_m16]; omega
theorem lc2 {x a : Int} (hx : 0 ≤ x ∧ x < 65536) (ha : 0 ≤ a ∧ a < 256) : Builtin.bitAnd (Builtin.bitOr (x * 2 ^ Int.toNat 8) a) 65535 = x % 256 * 256 + a := by rw [bitOr_sh hx.1 ha, bitAnd_m16]; omega
theorem fd2 (x : Int) : x.fdiv (2 ^ (0 + 8 - 6 : Int).toNat) = x / 4 := Int.fdiv_eq_ediv_of_nonneg x (by decide)
theorem fd4 (x : Int) : x.fdiv (2 ^ (0 + 8 - 6 + 8 - 6 : Int).toNat) = x / 16 := Int.fdiv_eq_ediv_of_nonneg x (by decide)
theorem fd6 (x : Int) : x.fdiv (2 ^ (0 + 8 - 6 + 8 - 6 + 8 - 6 : Int).toNat) = x / 64 := Int.fdiv_eq_ediv_of_nonneg x (by decide)
theorem fd0 (x : Int) : x.fdiv (2 ^ (0 + 8 - 6 + 8 - 6 + 8 - 6 - 6 : Int).toNat) = x := (Int.fdiv_eq_ediv_of_nonneg x (by decide)).trans (Int.ediv_one x)
theorem sh4 (x : Int) : x * 2 ^ Int.toNat 4 = x * 16 := rfl
theorem sh2 (x : Int) : x * 2 ^ Int.toNat 2 = x * 4 := rfl
theorem e1 {a : Int} (ha : 0 ≤ a ∧ a < 256) : [] ++ [b64c (Builtin.bitAnd ((Builtin.bitAnd (Builtin.bitOr (0 * 2 ^ Int.toNat 8) a) 65535).fdiv (2 ^ (0 + 8 - 6 : Int).toNat)) 63)] ++ [b64c (Builtin.bitAnd (Builtin.bitAnd (Builtin.bitOr (0 * 2 ^ Int.toNat 8) a) 65535) 3 * 2 ^ Int.toNat 4)] ++ [61] ++ [61] = [b64c (a / 4), b64c (a % 4 * 16), 61, 61] := by
  rw [lc1 ha, fd2, bitAnd_m6, bitAnd_m2, sh4, show a / 4 % 64 = a / 4 by omega]
  rfl
theorem e2 {a b : Int} (ha : 0 ≤ a ∧ a < 256) (hb : 0 ≤ b ∧ b < 256) : [] ++ [b64c (Builtin.bitAnd ((Builtin.bitAnd (Builtin.bitOr (0 * 2 ^ Int.toNat 8) a) 65535).fdiv (2 ^ (0 + 8 - 6 : Int).toNat)) 63)] ++ [b64c (Builtin.bitAnd ((Builtin.bitAnd (Builtin.bitOr (Builtin.bitAnd (Builtin.bitOr (0 * 2 ^ Int.toNat 8) a) 65535 * 2 ^ Int.toNat 8) b) 65535).fdiv (2 ^ (0 + 8 - 6 + 8 - 6 : Int).toNat)) 63)] ++ [b64c (Builtin.bitAnd (Builtin.bitAnd (Builtin.bitOr (Builtin.bitAnd (Builtin.bitOr (0 * 2 ^ Int.toNat 8) a) 65535 * 2 ^ Int.toNat 8) b) 65535) 15 * 2 ^ Int.toNat 2)] ++ [61] = [b64c (a / 4), b64c (a % 4 * 16 + b / 16), b64c (b % 16 * 4), 61] := by
  rw [lc1 ha, lc2 (by omega) hb, fd2, fd4, bitAnd_m6, bitAnd_m6, bitAnd_m4, sh2, show a / 4 % 64 = a / 4 by omega, show (a % 256 * 256 + b) / 16 % 64 = a % 4 * 16 + b / 16 by omega, show (a % 256 * 256 + b) % 16 * 4 = b % 16 * 4 by omega]
  rfl
theorem e3 {a b c : Int} (ha : 0 ≤ a ∧ a < 256) (hb : 0 ≤ b ∧ b < 256) (hc : 0 ≤ c ∧ c < 256) : [] ++ [b64c (Builtin.bitAnd ((Builtin.bitAnd (Builtin.bitOr (0 * 2 ^ Int.toNat 8) a) 65535).fdiv (2 ^ (0 + 8 - 6 : Int).toNat)) 63)] ++ [b64c (Builtin.bitAnd ((Builtin.bitAnd (Builtin.bitOr (Builtin.bitAnd (Builtin.bitOr (0 * 2 ^ Int.toNat 8) a) 65535 * 2 ^ Int.toNat 8) b) 65535).fdiv (2 ^ (0 + 8 - 6 + 8 - 6 : Int).toNat)) 63)] ++
    [b64c (Builtin.bitAnd ((Builtin.bitAnd (Builtin.bitOr (Builtin.bitAnd (Builtin.bitOr (Builtin.bitAnd (Builtin.bitOr (0 * 2 ^ Int.toNat 8) a) 65535 * 2 ^ Int.toNat 8) b) 65535 * 2 ^ Int.toNat 8) c) 65535).fdiv (2 ^ (0 + 8 - 6 + 8 - 6 + 8 - 6 : Int).toNat)) 63)] ++
    [b64c (Builtin.bitAnd ((Builtin.bitAnd (Builtin.bitOr (Builtin.bitAnd (Builtin.bitOr (Builtin.bitAnd (Builtin.bitOr (0 * 2 ^ Int.toNat 8) a) 65535 * 2 ^ Int.toNat 8) b) 65535 * 2 ^ Int.toNat 8) c) 65535).fdiv (2 ^ (0 + 8 - 6 + 8 - 6 + 8 - 6 - 6 : Int).toNat)) 63)] = [b64c (a / 4), b64c (a % 4 * 16 + b / 16), b64c (b % 16 * 4 + c / 64), b64c (c % 64)] := by
  rw [lc1 ha, lc2 (by omega) hb, lc2 (by omega) hc, fd2, fd4, fd6, fd0, bitAnd_m6, bitAnd_m6, bitAnd_m6, bitAnd_m6, show a / 4 % 64 = a / 4 by omega, show (a % 256 * 256 + b) / 16 % 64 = a % 4 * 16 + b / 16 by omega, show ((a % 256 * 256 + b) % 256 * 256 + c) / 64 % 64 = b % 16 * 4 + c / 64 by omega, show ((a % 256 * 256 + b) % 256 * 256 + c) % 64 = c % 64 by omega]
  rfl
end Mine
end

section
open PySem PySem.W PyProof.Rows PySem.Calls
set_option maxRecDepth 100000
namespace Mine
theorem loop2 {β : Type} (n : Nat) (f : Nat → β → Sem (ForInStep β)) (b0 b1 : β) (h0 : ∀ i, f i b0 = pure (.yield b1)) (h1 : ∀ i, f i b1 = pure (.done b1)) (hn : 0 < n) : (forIn [0:n] b0 f : Sem β) = pure b1 := by
  rw [Std.Legacy.Range.forIn_eq_forIn_range']
  obtain ⟨m, rfl⟩ : ∃ m, n = m + 1 := ⟨n - 1, by omega⟩
  simp only [Std.Legacy.Range.size]
  rw [show (m + 1 - 0 + 1 - 1) / 1 = m + 1 by simp, List.range'_succ, List.forIn_cons, h0]
  cases m with
  | zero => rfl
  | succ k =>
    show (forIn (List.range' 1 (k + 1)) b1 f : Sem β) = _
    rw [List.range'_succ, List.forIn_cons, h1]
    rfl
theorem loop0 {β : Type} (f : Nat → β → Sem (ForInStep β)) (b0 : β) : (forIn [0:0] b0 f : Sem β) = pure b0 := by
  rw [Std.Legacy.Range.forIn_eq_forIn_range']
  rfl
open Builtin._codecs in
theorem enc_ascii (id : String) (self : Value) (x : Str) (h : ∀ c ∈ x.cps, c < 128) (hsz : x.cps.size ≤ sizeLine) : encodeNarrow id asciiCodec none self x = pure (x.cps.map Nat.toUInt8) := by
  have hb : ∀ c ∈ x.cps, asciiCodec.bad c = false := fun c hc => by simp [asciiCodec, h c hc]
  unfold encodeNarrow
  by_cases hn : 0 < x.length
  · have hc : ∃ c, x.cps[0]? = some c ∧ asciiCodec.bad c = false := by
      have : 0 < x.cps.size := hn
      exact ⟨x.cps[0], by simp [this], hb _ (Array.getElem_mem this)⟩
    obtain ⟨c, hc, hcb⟩ := hc
    have hclean : (Array.findIdx? asciiCodec.bad (x.cps.extract 0 x.cps.size)).getD (x.cps.extract 0 x.cps.size).size = x.cps.size := by
      rw [Array.extract_size]
      have : Array.findIdx? asciiCodec.bad x.cps = none := by
        rw [Array.findIdx?_eq_none_iff]
        exact hb
      rw [this]; rfl
    have hout : Array.foldl (fun acc y => acc ++ (asciiCodec.bytesOf y).toArray) #[] x.cps = x.cps.map Nat.toUInt8 := by
      rw [← Array.foldl_toList]
      have key : ∀ (l : List Nat) (acc : Array UInt8), List.foldl (fun acc y => acc ++ (asciiCodec.bytesOf y).toArray) acc l = acc ++ (l.map Nat.toUInt8).toArray := by
        intro l
        induction l with
        | nil => intro acc; simp
        | cons y r ih => intro acc; rw [List.foldl_cons, ih]; simp [asciiCodec]
      rw [key, Array.empty_append]
      exact Array.ext' (by simp)
    refine (congrArg (· >>= _) (loop2 x.length _ _ (x.cps.size, x.cps.map Nat.toUInt8, {}) ?_ ?_ hn)).trans rfl
    · intro i
      dsimp only
      rw [if_neg (by simp), hc]
      dsimp only
      rw [if_pos (by rw [hcb]; rfl), hclean]
      simp only [Nat.zero_add, Array.extract_size, hout]
    · intro i
      dsimp only
      rw [if_neg (by rw [Array.size_map]; omega)]
      have : x.cps[x.cps.size]? = none := by simp
      rw [this]
  · have : x.cps = #[] := Array.eq_empty_of_size_eq_zero (by unfold PySem.Str.length at hn; omega)
    have hl : x.length = 0 := by omega
    rw [hl, this, show Array.map Nat.toUInt8 #[] = #[] by simp]
    refine (congrArg (· >>= _) (loop0 _ _)).trans rfl

section
open Builtin
theorem slot_upper : Slot "bytes" "upper" "bytes.upper" :=
  .of (owner := "bytes") (n := "upper") (by rw [typeLookup_type, builtinLookup_eq_fast]; kernel_rfl) (by decide +kernel) (by decide +kernel) (by decide +kernel)
    (by first | exact .inl (by decide +kernel) | exact .inr (by decide +kernel)) (by rw [isSubtype_type]; kernel_rfl)
theorem type_upper : typeOf (.builtin "bytes.upper") = pure (.type "method_descriptor") := by show builtinType _ = _; rw [builtinType_eq_fast]; kernel_rfl
theorem entry_upper : entryFor table "bytes.upper" = some Builtin.«bytes.upper» := entryFor_of_tree (by kernel_rfl)
theorem args_upper (a : Value) : argsOk "bytes.upper" ⟨[a], []⟩ := by unfold argsOk; kernel_rfl
theorem slot_translate : Slot "bytes" "translate" "bytes.translate" :=
  .of (owner := "bytes") (n := "translate") (by rw [typeLookup_type, builtinLookup_eq_fast]; kernel_rfl) (by decide +kernel) (by decide +kernel) (by decide +kernel)
    (by first | exact .inl (by decide +kernel) | exact .inr (by decide +kernel)) (by rw [isSubtype_type]; kernel_rfl)
theorem type_translate : typeOf (.builtin "bytes.translate") = pure (.type "method_descriptor") := by show builtinType _ = _; rw [builtinType_eq_fast]; kernel_rfl
theorem entry_translate : entryFor table "bytes.translate" = some Builtin.«bytes.translate» := entryFor_of_tree (by kernel_rfl)
theorem args_translate (a b : Value) : argsOk "bytes.translate" ⟨[a, b], []⟩ := by unfold argsOk; kernel_rfl
theorem slot_blt : Slot "bytes" (cmpInfo .Lt).2.1 "bytes.__lt__" :=
  .of (owner := "bytes") (n := "__lt__") (by rw [typeLookup_type, builtinLookup_eq_fast]; kernel_rfl) (by decide +kernel) (by decide +kernel) (by decide +kernel)
    (by first | exact .inl (by decide +kernel) | exact .inr (by decide +kernel)) (by rw [isSubtype_type]; kernel_rfl)
theorem entry_blt : entryFor table "bytes.__lt__" = some Builtin.«bytes.__lt__» := entryFor_of_tree (by kernel_rfl)
theorem args_blt (a b : Value) : argsOk "bytes.__lt__" ⟨[a, b], []⟩ := by unfold argsOk; kernel_rfl
theorem slot_bgt : Slot "bytes" (cmpInfo .Gt).2.1 "bytes.__gt__" :=
  .of (owner := "bytes") (n := "__gt__") (by rw [typeLookup_type, builtinLookup_eq_fast]; kernel_rfl) (by decide +kernel) (by decide +kernel) (by decide +kernel)
    (by first | exact .inl (by decide +kernel) | exact .inr (by decide +kernel)) (by rw [isSubtype_type]; kernel_rfl)
theorem entry_bgt : entryFor table "bytes.__gt__" = some Builtin.«bytes.__gt__» := entryFor_of_tree (by kernel_rfl)
theorem args_bgt (a b : Value) : argsOk "bytes.__gt__" ⟨[a, b], []⟩ := by unfold argsOk; kernel_rfl

theorem gives_blt (b c : Array UInt8) (t u : Tok) : Gives («bytes.__lt__» ⟨[.bytes b t, .bytes c u], []⟩) (.val (.bool (Bytes.order b.toList c.toList == .lt))) := by
  refine .of_wp fun M A E s Q hq => ?_
  show wpAny M A (isInstance (.bytes c u) (.type "bytes") >>= fun r => _) _ E s
  refine wpAny_bind (wpAny_isInstance (typeIs_bytes s c u) F.sub_bytes_bytes ?_)
  exact wpAny_pure ⟨_, rfl, hq⟩
theorem gives_bgt (b c : Array UInt8) (t u : Tok) : Gives («bytes.__gt__» ⟨[.bytes b t, .bytes c u], []⟩) (.val (.bool (Bytes.order b.toList c.toList == .gt))) := by
  refine .of_wp fun M A E s Q hq => ?_
  show wpAny M A (isInstance (.bytes c u) (.type "bytes") >>= fun r => _) _ E s
  refine wpAny_bind (wpAny_isInstance (typeIs_bytes s c u) F.sub_bytes_bytes ?_)
  exact wpAny_pure ⟨_, rfl, hq⟩
theorem gives_upper (b : Array UInt8) (t : Tok) : Gives («bytes.upper» ⟨[.bytes b t], []⟩) (.bytes (b.toList.map Bytes.toUpper).toArray) := .of_eq rfl
theorem encode_eq (x : Str) (t u : Tok) : «str.encode» ⟨[.str x t, .str (Str.ofString "ascii") u], []⟩ = (do ret (← (do mkBytes (← _codecs.encodeNarrow "str.encode" _codecs.asciiCodec none (.str x t) x)))) := by kernel_rfl
theorem gives_encode (x : Str) (t u : Tok) (h : ∀ c ∈ x.cps, c < 128) (hsz : x.cps.size ≤ sizeLine) : Gives («str.encode» ⟨[.str x t, .str (Str.ofString "ascii") u], []⟩) (.bytes (x.cps.map Nat.toUInt8)) := by
  rw [encode_eq, enc_ascii _ _ _ h hsz]
  exact .of_eq rfl
end
end Mine
end

section
open PySem PySem.W PyProof.Rows PySem.Calls
set_option maxRecDepth 100000
namespace Mine
section
open Builtin
/-- an octet's two signs -/
def hexOf (l : List UInt8) : List Nat := l.flatMap fun c => [Bytes.hexDigit (c.toNat / 16), Bytes.hexDigit (c.toNat % 16)]
theorem hexOf_length (l : List UInt8) : (hexOf l).length = 2 * l.length := by
  induction l with
  | nil => rfl
  | cons c r ih => simp only [hexOf, List.flatMap_cons, List.length_append, List.length_cons, List.length_nil] at ih ⊢; omega
theorem hexDigit_low {n : Nat} (h : n < 16) : Bytes.hexDigit n < 128 := by unfold Bytes.hexDigit; split <;> omega
theorem hexOf_low (l : List UInt8) : ∀ c ∈ (PySem.Str.mk (hexOf l).toArray).cps, c < 128 := by
  intro c hc
  have hc' : c ∈ hexOf l := by simpa using hc
  obtain ⟨d, _, hd⟩ := List.mem_flatMap.mp hc'
  have hlt := d.toNat_lt
  simp only [List.mem_cons, List.not_mem_nil, or_false] at hd
  rcases hd with rfl | rfl
  · exact hexDigit_low (by omega)
  · exact hexDigit_low (by omega)
theorem hex_fold (l : List UInt8) : ∀ (i : Nat) (out : Array Nat), (l.zipIdx i).foldl (fun (out : Array Nat) (x : UInt8 × Nat) => (out.push (Bytes.hexDigit (x.1.toNat / 16))).push (Bytes.hexDigit (x.1.toNat % 16))) out = out ++ (hexOf l).toArray := by
  induction l with
  | nil => intro i out; simp [hexOf]
  | cons c r ih =>
    intro i out
    rw [List.zipIdx_cons, List.foldl_cons, ih]
    apply Array.ext'
    simp [hexOf]
theorem gives_hex (b : Array UInt8) (t : Tok) : Gives («bytes.hex» ⟨[.bytes b t], []⟩) (.str ⟨(hexOf b.toList).toArray⟩) := by
  have e : «bytes.hex» ⟨[.bytes b t], []⟩ = retStr ⟨b.toList.zipIdx.foldl (fun (out : Array Nat) (x : UInt8 × Nat) => (out.push (Bytes.hexDigit (x.1.toNat / 16))).push (Bytes.hexDigit (x.1.toNat % 16))) #[]⟩ := by kernel_rfl
  rw [e, hex_fold, Array.empty_append]
  exact .of_eq rfl
def trOf (tab b : Array UInt8) : Array UInt8 := b.map fun c => tab.getD c.toNat c
theorem tr_filter (b : Array UInt8) : (b.filter (fun c => !(#[] : Array UInt8).contains c)) = b := by simp
theorem run_translate {M : Model} {A : Around} {E : Value → Shared → Prop} {s : Shared} {b tab : Array UInt8} {t u : Tok} {Q : Value → Shared → Prop} (h256 : tab.size = 256) (hsz : b.size ≤ sizeLine)
    (h : ∀ t' k, Q (.bytes (trOf tab b) t') { s with toks := k }) : wpAny M A («bytes.translate» ⟨[.bytes b t, .bytes tab u], []⟩) (fun fin s' => ∃ v, fin = .done (.ret v) ∧ Q v s') E s := by
  unfold «bytes.translate» Bytes.translateM
  dsimp only
  rw [if_neg (show ¬ [Value.bytes tab u].length + ([] : List (Str × Value)).length > 2 by simp), if_neg (show ¬ (([] : List (Str × Value)).any fun x => x.fst != Str.ofString "delete") = true by simp), if_neg (show ¬ (Value.bytes tab u == Value.none) = true from fun e => by cases e)]
  rw [KBd.like_eq]
  refine wpAny_bind (wpAny_pure ?_)
  rw [if_neg (by rw [h256]; decide)]
  refine wpAny_bind (wpAny_pure ?_)
  dsimp only [List.head?, Option.map, HOrElse.hOrElse, OrElse.orElse, Option.orElse]
  refine wpAny_bind (wpAny_pure ?_)
  refine wpAny_bind (wpAny_pure ?_)
  rw [tr_filter]
  show wpAny M A (if (trOf tab b == b) = true then _ else _) _ _ _
  split
  · rename_i e
    have e' : trOf tab b = b := eq_of_beq e
    refine wpAny_bind (wpAny_rule ?_)
    refine wpAny_bind (wpAny_pure (wpAny_pure ⟨_, rfl, ?_⟩))
    have := h t s.toks
    rw [e'] at this
    exact this
  · exact wpAny_bind (wpAny_mkBytes (wpAny_pure ⟨_, rfl, h _ _⟩) (by show (Array.map _ _).size ≤ _; rw [Array.size_map]; exact hsz))
end
section
variable {prog : Program} {w : World} {A : Around} {E : Value → Shared → Prop} {s : Shared} {b c : Array UInt8} {t u : Tok}
theorem call_translate {tab : Array UInt8} {Q : Value → Shared → Prop} (h256 : tab.size = 256) (hsz : b.size ≤ 16777216) (h : ∀ t' k, Q (.bytes (trOf tab b) t') { s with toks := k }) :
    wpAny (model prog w) A (call (.builtin "bytes.translate") [.bytes b t, .bytes tab u]) Q E s :=
  call_meets (S := fun _ R s => ∀ t' k, R (.ok (.ret (.bytes (trOf tab b) t'))) { s with toks := k }) slot_translate (typeIs_bytes _ _ _) entry_translate (args_translate _ _)
    (.of_wp fun _ _ _ _ _ hS => run_translate h256 (by rw [sizeLine_eq]; exact hsz) hS) h
theorem call_upper {Q : Value → Shared → Prop} (hsz : b.size ≤ 16777216) (h : ∀ t' k, Q (.bytes (b.toList.map Builtin.Bytes.toUpper).toArray t') { s with toks := k }) : wpAny (model prog w) A (call (.builtin "bytes.upper") [.bytes b t]) Q E s :=
  call_gives slot_upper (typeIs_bytes _ _ _) entry_upper (args_upper _) (gives_upper b t) ⟨by rw [sizeLine_eq]; simpa using hsz, h _ _⟩
theorem call_hex {Q : Value → Shared → Prop} (hsz : b.size ≤ 1048576) (h : ∀ t' k, Q (.str ⟨(hexOf b.toList).toArray⟩ t') { s with toks := k }) : wpAny (model prog w) A (call (.builtin "bytes.hex") [.bytes b t]) Q E s := by
  refine call_gives FB.slot_bytes_hex (typeIs_bytes _ _ _) FB.entry_bytes_hex (FB.args_bytes_hex_1 _) (gives_hex b t) ⟨?_, h _ _⟩
  rw [sizeLine_eq]
  have e := hexOf_length b.toList
  simp only [PySem.Str.length, List.size_toArray, Array.length_toList] at e ⊢
  omega
theorem call_encode {x : Str} {Q : Value → Shared → Prop} (hx : ∀ c ∈ x.cps, c < 128) (hsz : x.cps.size ≤ 16777216) (h : ∀ t' k, Q (.bytes (x.cps.map Nat.toUInt8) t') { s with toks := k }) :
    wpAny (model prog w) A (call (.builtin "str.encode") [.str x t, .str (Str.ofString "ascii") u]) Q E s :=
  call_gives F.slot_str_encode (typeIs_str _ _ _) F.entry_str_encode (F.args_str_encode_2 _ _) (gives_encode x t u hx (by rw [sizeLine_eq]; exact hsz)) ⟨by rw [sizeLine_eq]; simpa using hsz, h _ _⟩
theorem lt_bytes {Q : Value → Shared → Prop} (h : Q (.bool (Builtin.Bytes.order b.toList c.toList == .lt)) s) : wpAny (model prog w) A (compareOp .Lt (.bytes b t) (.bytes c u)) Q E s :=
  compareOp_gives (op := .Lt) (typeIs_bytes s b t) (typeIs_bytes s c u) slot_blt entry_blt (args_blt _ _) (gives_blt b c t u) (fun e => nomatch e) h
theorem gt_bytes {Q : Value → Shared → Prop} (h : Q (.bool (Builtin.Bytes.order b.toList c.toList == .gt)) s) : wpAny (model prog w) A (compareOp .Gt (.bytes b t) (.bytes c u)) Q E s :=
  compareOp_gives (op := .Gt) (typeIs_bytes s b t) (typeIs_bytes s c u) slot_bgt entry_bgt (args_bgt _ _) (gives_bgt b c t u) (fun e => nomatch e) h
theorem meth_encode {M : Model} {x : Str} {pl : Sem Bool} {Q : Value × List Value → Shared → Prop} (h : Q (.builtin "str.encode", [.str x t]) s) : wpAny M A (getMethod (.str x t) (Str.ofString "encode") pl) Q E s := by
  with_reducible exact getMethod_builtin (typeIs_str _ _ _) F.plainAttrs_str F.slot_str_encode F.type_str_encode (fun _ e => nomatch e) h
theorem meth_hex {M : Model} {pl : Sem Bool} {Q : Value × List Value → Shared → Prop} (h : Q (.builtin "bytes.hex", [.bytes b t]) s) : wpAny M A (getMethod (.bytes b t) (Str.ofString "hex") pl) Q E s := by
  with_reducible exact KBd.method_of (.bytes b t) (typeIs_bytes _ _ _) FB.slot_bytes_hex FB.type_bytes_hex KBd.noRef h
theorem meth_upper {M : Model} {pl : Sem Bool} {Q : Value × List Value → Shared → Prop} (h : Q (.builtin "bytes.upper", [.bytes b t]) s) : wpAny M A (getMethod (.bytes b t) (Str.ofString "upper") pl) Q E s := by
  with_reducible exact KBd.method_of (.bytes b t) (typeIs_bytes _ _ _) slot_upper type_upper KBd.noRef h
theorem meth_translate {M : Model} {pl : Sem Bool} {Q : Value × List Value → Shared → Prop} (h : Q (.builtin "bytes.translate", [.bytes b t]) s) : wpAny M A (getMethod (.bytes b t) (Str.ofString "translate") pl) Q E s := by
  with_reducible exact KBd.method_of (.bytes b t) (typeIs_bytes _ _ _) slot_translate type_translate KBd.noRef h
end
end Mine
end

section
open PySem PySem.W PyProof.Rows PySem.Calls
set_option maxRecDepth 100000
set_option maxHeartbeats 8000000
namespace Mine
/-- the head leaves its own lines switched on: off again -/
theorem offP1 : True := by w_top off; trivial
/-- the octets of a number -/
def octI (x : Int) : List Int := (rangeKs 0 (x.fmod 4 - 0).toNat).map fun k' => ((x.fdiv 4).fdiv (256 ^ k'.toNat) + 85 * k').fmod 256
theorem sp_octets (w : World) (x : Int) (t : Tok) : Spec w 1 114 [.int x t] [] (fun _ => True) (fun _ _ r => ∃ t', r = .bytes (byteArr (octI x)) t') := by
  intro mean mg mb dp un gd base outer s Q E B X T hd hu hp ret
  k_dflt (refine' enterC (binds := [(Str.ofString "x", .int x t)]) X T ?ho ?hcd ?hroom ?hbind ?hloc ?hnd ?_ ?c2 ?c3 ?c4)
  case ho => k_is
  case hcd => k_is
  case hroom => exact Nat.lt_of_le_of_lt (Nat.le_add_right _ _) hd
  case hbind => exact BindsTo.of_eq rfl
  case hloc => exact rfl
  case hnd => decide +kernel
  case c2 => rfl
  case c3 => rfl
  case c4 => rfl
  intro L h₁ tk cells F N Y
  k_cells Y
  (try simp only [List.cons_append, List.nil_append] at N)
  (try dsimp only)
  (try k_fold)
  w_strict (repeat' (first
      | (k_unfold; (try dsimp only))
      | (k_end; wrow_close)
      | with_reducible (k_here; (with_reducible show wpAny _ _ (call (Value.type "bytes") [Value.ref _]) _ _ _); k_dflt (refine' bytes_push ?kbaFx6 ?kbaNx6 ?kbahx6 ?kbalx6 ?kbaix6 ?kbarx6 ?kbanx6 ?_; (case kbaFx6 | kbaNx6 => k_asm); (case kbahx6 => rfl); (case kbalx6 => k_mem); (case kbaix6 => ((repeat apply ia_push); exact ia_nil)); (case kbarx6 => ((repeat (refine' in_push ?_ ?kax6 ?kbx6; (case kax6 | kbx6 => first | with_reducible assumption | decide))); exact in_nil)); (case kbanx6 => exact Nat.le_of_ble_eq_true rfl)); intro h' t' k' F' N')
      | with_reducible ((with_reducible show wpAny _ _ (storeName _ _ _) _ _ _); k_here; k_dflt (first | (refine' storeI ?Fx5 ?Nx5 ?_ ?ax5 ?bx5; (case Fx5 | Nx5 => k_asm); (case ax5 | bx5 => rfl); k_whole; intro h' t' tk' F' N'; (try k_sweep); (try dsimp only)) | (refine' storeS ?Fx5 ?Nx5 ?_ ?ax5 ?bx5; (case Fx5 | Nx5 => k_asm); (case ax5 | bx5 => rfl); k_whole; intro h' t' tk' F' N'; (try k_sweep); (try dsimp only)) | (refine' storeB ?Fx5 ?Nx5 ?_ ?ax5 ?bx5; (case Fx5 | Nx5 => k_asm); (case ax5 | bx5 => rfl); k_whole; intro h' t' tk' F' N'; (try k_sweep); (try dsimp only))))
      | with_reducible ((with_reducible show wpAny _ _ (binaryOp Operator.LShift (Value.int _ _) (Value.int _ _)) _ _ _); k_here; (with_reducible refine' lshift_int_small ?kb1x4 ?kb2x4 ?kb3x4 ?_); (case kb1x4 | kb2x4 => decide); (case kb3x4 => ((try simp only [bitAnd_m16, bitAnd_m2, bitAnd_m4]); omega)))
      | with_reducible (k_here; (with_reducible show wpAny _ _ (subscriptTail _ _ (Value.bytes _ _) (Value.int _ _)) _ _ _); (with_unfolding_all refine' b64_item ?k1x3 ?k2x3 ?_ ?k4x3 ?k5x3; (case k1x3 | k2x3 => ((try simp only [bitAnd_m2, bitAnd_m4, bitAnd_m6, show Int.toNat 4 = 4 from rfl, show Int.toNat 2 = 2 from rfl]); omega)); (case k4x3 => with_unfolding_all rfl); (case k5x3 => (intro _; with_unfolding_all rfl)); k_whole); intro t' k' lo' hi')
      | with_reducible ((with_reducible show wpAny _ _ (pyIter (Value.bytes _ _)) _ _ _); (with_reducible show wpAny _ _ (pyIter (Value.bytes _ _)) (fun it s₂ => LoopAtV _ _ _ _ _ _ _ _ _ it s₂) _ _); k_here; k_bytesUnr)
      | with_reducible (k_here; (with_reducible show wpAny _ _ (call (Value.type "type") [Value.bytes _ _]) _ _ _); refine call_type_of (typeIs_bytes _ _ _) (by decide) ?_)
      | with_reducible (k_here; (with_reducible refine floordiv_int (p256_ne ?kbex0) ?_ (Or.inl (PyProof.noPylong_small (p256_small ?kbpx0)))); (case kbex0 | kbpx0 => omega))
      | walk1
      | (dsimp only)
      | (leave1; walk_say "STEP leave1"; try dsimp only)
      | fail "no step"))
  all_goals exact ret _ _ _ (Fr.keep (by assumption)) ⟨_, rfl⟩

theorem sp_buffer (w : World) (bb : Array UInt8) (t : Tok) : Spec w 1 28 [.bytes bb t] [] (fun _ => True) (fun _ _ r => r = .bytes bb t) := by
  intro mean mg mb dp un gd base outer s Q E B X T hd hu hp ret
  k_dflt (refine' enter (binds := [(Str.ofString "data", .bytes bb t)]) X T ?ho ?hcd ?hroom ?hbind ?hloc ?_ ?c2 ?c3 ?c4 ?c5)
  case ho => k_is
  case hcd => k_is
  case hroom => exact Nat.lt_of_le_of_lt (Nat.le_add_right _ _) hd
  case hbind => exact BindsTo.of_eq rfl
  case hloc => exact locs rfl
  case c2 => rfl
  case c3 => rfl
  case c4 => rfl
  case c5 => decide
  intro L h₁ F N
  (try dsimp only)
  (try k_fold)
  w_strict (repeat' (first
      | (k_unfold; (try dsimp only))
      | (k_end; wrow_close)
      | with_reducible (k_here; (with_reducible show wpAny _ _ (call (Value.type "bytes") [Value.ref _]) _ _ _); k_dflt (refine' bytes_push ?kbaFx6 ?kbaNx6 ?kbahx6 ?kbalx6 ?kbaix6 ?kbarx6 ?kbanx6 ?_; (case kbaFx6 | kbaNx6 => k_asm); (case kbahx6 => rfl); (case kbalx6 => k_mem); (case kbaix6 => ((repeat apply ia_push); exact ia_nil)); (case kbarx6 => ((repeat (refine' in_push ?_ ?kax6 ?kbx6; (case kax6 | kbx6 => first | with_reducible assumption | decide))); exact in_nil)); (case kbanx6 => exact Nat.le_of_ble_eq_true rfl)); intro h' t' k' F' N')
      | with_reducible ((with_reducible show wpAny _ _ (storeName _ _ _) _ _ _); k_here; k_dflt (first | (refine' storeI ?Fx5 ?Nx5 ?_ ?ax5 ?bx5; (case Fx5 | Nx5 => k_asm); (case ax5 | bx5 => rfl); k_whole; intro h' t' tk' F' N'; (try k_sweep); (try dsimp only)) | (refine' storeS ?Fx5 ?Nx5 ?_ ?ax5 ?bx5; (case Fx5 | Nx5 => k_asm); (case ax5 | bx5 => rfl); k_whole; intro h' t' tk' F' N'; (try k_sweep); (try dsimp only)) | (refine' storeB ?Fx5 ?Nx5 ?_ ?ax5 ?bx5; (case Fx5 | Nx5 => k_asm); (case ax5 | bx5 => rfl); k_whole; intro h' t' tk' F' N'; (try k_sweep); (try dsimp only))))
      | with_reducible ((with_reducible show wpAny _ _ (binaryOp Operator.LShift (Value.int _ _) (Value.int _ _)) _ _ _); k_here; (with_reducible refine' lshift_int_small ?kb1x4 ?kb2x4 ?kb3x4 ?_); (case kb1x4 | kb2x4 => decide); (case kb3x4 => ((try simp only [bitAnd_m16, bitAnd_m2, bitAnd_m4]); omega)))
      | with_reducible (k_here; (with_reducible show wpAny _ _ (subscriptTail _ _ (Value.bytes _ _) (Value.int _ _)) _ _ _); (with_unfolding_all refine' b64_item ?k1x3 ?k2x3 ?_ ?k4x3 ?k5x3; (case k1x3 | k2x3 => ((try simp only [bitAnd_m2, bitAnd_m4, bitAnd_m6, show Int.toNat 4 = 4 from rfl, show Int.toNat 2 = 2 from rfl]); omega)); (case k4x3 => with_unfolding_all rfl); (case k5x3 => (intro _; with_unfolding_all rfl)); k_whole); intro t' k' lo' hi')
      | with_reducible ((with_reducible show wpAny _ _ (pyIter (Value.bytes _ _)) _ _ _); (with_reducible show wpAny _ _ (pyIter (Value.bytes _ _)) (fun it s₂ => LoopAtV _ _ _ _ _ _ _ _ _ it s₂) _ _); k_here; k_bytesUnr)
      | with_reducible (k_here; (with_reducible show wpAny _ _ (call (Value.type "type") [Value.bytes _ _]) _ _ _); refine call_type_of (typeIs_bytes _ _ _) (by decide) ?_)
      | with_reducible (k_here; (with_reducible refine floordiv_int (p256_ne ?kbex0) ?_ (Or.inl (PyProof.noPylong_small (p256_small ?kbpx0)))); (case kbex0 | kbpx0 => omega))
      | walk1
      | (dsimp only)
      | (leave1; walk_say "STEP leave1"; try dsimp only)
      | fail "no step"))
  all_goals exact ret _ _ _ (Fr.keep (by assumption)) rfl

theorem sp_truth (w : World) (b : Bool) : Spec w 1 35 [.bool b] [] (fun _ => True) (fun _ _ r => r = .bool b) := by
  intro mean mg mb dp un gd base outer s Q E B X T hd hu hp ret
  k_dflt (refine' enter (binds := [(Str.ofString "x", .bool b)]) X T ?ho ?hcd ?hroom ?hbind ?hloc ?_ ?c2 ?c3 ?c4 ?c5)
  case ho => k_is
  case hcd => k_is
  case hroom => exact Nat.lt_of_le_of_lt (Nat.le_add_right _ _) hd
  case hbind => exact BindsTo.of_eq rfl
  case hloc => exact locs rfl
  case c2 => rfl
  case c3 => rfl
  case c4 => rfl
  case c5 => decide
  intro L h₁ F N
  (try dsimp only)
  (try k_fold)
  w_strict (repeat' (first
      | (k_unfold; (try dsimp only))
      | (k_end; wrow_close)
      | with_reducible (k_here; (with_reducible show wpAny _ _ (call (Value.type "bytes") [Value.ref _]) _ _ _); k_dflt (refine' bytes_push ?kbaFx6 ?kbaNx6 ?kbahx6 ?kbalx6 ?kbaix6 ?kbarx6 ?kbanx6 ?_; (case kbaFx6 | kbaNx6 => k_asm); (case kbahx6 => rfl); (case kbalx6 => k_mem); (case kbaix6 => ((repeat apply ia_push); exact ia_nil)); (case kbarx6 => ((repeat (refine' in_push ?_ ?kax6 ?kbx6; (case kax6 | kbx6 => first | with_reducible assumption | decide))); exact in_nil)); (case kbanx6 => exact Nat.le_of_ble_eq_true rfl)); intro h' t' k' F' N')
      | with_reducible ((with_reducible show wpAny _ _ (storeName _ _ _) _ _ _); k_here; k_dflt (first | (refine' storeI ?Fx5 ?Nx5 ?_ ?ax5 ?bx5; (case Fx5 | Nx5 => k_asm); (case ax5 | bx5 => rfl); k_whole; intro h' t' tk' F' N'; (try k_sweep); (try dsimp only)) | (refine' storeS ?Fx5 ?Nx5 ?_ ?ax5 ?bx5; (case Fx5 | Nx5 => k_asm); (case ax5 | bx5 => rfl); k_whole; intro h' t' tk' F' N'; (try k_sweep); (try dsimp only)) | (refine' storeB ?Fx5 ?Nx5 ?_ ?ax5 ?bx5; (case Fx5 | Nx5 => k_asm); (case ax5 | bx5 => rfl); k_whole; intro h' t' tk' F' N'; (try k_sweep); (try dsimp only))))
      | with_reducible ((with_reducible show wpAny _ _ (binaryOp Operator.LShift (Value.int _ _) (Value.int _ _)) _ _ _); k_here; (with_reducible refine' lshift_int_small ?kb1x4 ?kb2x4 ?kb3x4 ?_); (case kb1x4 | kb2x4 => decide); (case kb3x4 => ((try simp only [bitAnd_m16, bitAnd_m2, bitAnd_m4]); omega)))
      | with_reducible (k_here; (with_reducible show wpAny _ _ (subscriptTail _ _ (Value.bytes _ _) (Value.int _ _)) _ _ _); (with_unfolding_all refine' b64_item ?k1x3 ?k2x3 ?_ ?k4x3 ?k5x3; (case k1x3 | k2x3 => ((try simp only [bitAnd_m2, bitAnd_m4, bitAnd_m6, show Int.toNat 4 = 4 from rfl, show Int.toNat 2 = 2 from rfl]); omega)); (case k4x3 => with_unfolding_all rfl); (case k5x3 => (intro _; with_unfolding_all rfl)); k_whole); intro t' k' lo' hi')
      | with_reducible ((with_reducible show wpAny _ _ (pyIter (Value.bytes _ _)) _ _ _); (with_reducible show wpAny _ _ (pyIter (Value.bytes _ _)) (fun it s₂ => LoopAtV _ _ _ _ _ _ _ _ _ it s₂) _ _); k_here; k_bytesUnr)
      | with_reducible (k_here; (with_reducible show wpAny _ _ (call (Value.type "type") [Value.bytes _ _]) _ _ _); refine call_type_of (typeIs_bytes _ _ _) (by decide) ?_)
      | with_reducible (k_here; (with_reducible refine floordiv_int (p256_ne ?kbex0) ?_ (Or.inl (PyProof.noPylong_small (p256_small ?kbpx0)))); (case kbex0 | kbpx0 => omega))
      | walk1
      | (dsimp only)
      | (leave1; walk_say "STEP leave1"; try dsimp only)
      | fail "no step"))
  all_goals exact ret _ _ _ (Fr.keep (by assumption)) (by simp_all)
theorem b2a0 (w : World) (bb : Array UInt8) (t : Tok) (hbb : KBw.bInts bb = []) : Spec w 3 43 [.bytes bb t] [(Str.ofString "newline", .bool false)] (fun _ => True) (fun _ _ r => ∃ t', r = .bytes (byteArr []) t') := by
  intro mean mg mb dp un gd base outer s Q E B X T hd hu hp ret
  k_dflt (refine' enter (binds := [(Str.ofString "data", .bytes bb t), (Str.ofString "newline", .bool false)]) X T ?ho ?hcd ?hroom ?hbind ?hloc ?_ ?c2 ?c3 ?c4 ?c5)
  case ho => k_is
  case hcd => k_is
  case hroom => exact Nat.lt_of_le_of_lt (Nat.le_add_right _ _) hd
  case hbind => exact BindsTo.of_eq rfl
  case hloc => exact locs rfl
  case c2 => rfl
  case c3 => rfl
  case c4 => rfl
  case c5 => decide
  intro L h₁ F N
  (try dsimp only)
  (try k_fold)
  w_strict (repeat' (first
      | (k_unfold; (try dsimp only))
      | (k_end; wrow_close)
      | with_reducible ((with_reducible show wpAny _ _ (call (Value.ref _) _ _) _ _ _); k_here; k_dflt (refine' useA (sp_truth _ _) ?_; intro r' h' tk' F' N' K' P'; subst P'; (try k_sweep); (try dsimp only); (try k_fold)))
      | with_reducible ((with_reducible show wpAny _ _ (call (Value.ref _) _ _) _ _ _); k_here; k_dflt (refine' useA (sp_buffer _ _ _) ?_; intro r' h' tk' F' N' K' P'; subst P'; (try k_sweep); (try dsimp only); (try k_fold)))
      | with_reducible (k_here; (with_reducible show wpAny _ _ (call (Value.type "bytes") [Value.ref _]) _ _ _); k_dflt (refine' bytes_push ?kbaFx6 ?kbaNx6 ?kbahx6 ?kbalx6 ?kbaix6 ?kbarx6 ?kbanx6 ?_; (case kbaFx6 | kbaNx6 => k_asm); (case kbahx6 => rfl); (case kbalx6 => k_mem); (case kbaix6 => ((repeat apply ia_push); exact ia_nil)); (case kbarx6 => ((repeat (refine' in_push ?_ ?kax6 ?kbx6; (case kax6 | kbx6 => first | with_reducible assumption | decide))); exact in_nil)); (case kbanx6 => exact Nat.le_of_ble_eq_true rfl)); intro h' t' k' F' N')
      | with_reducible ((with_reducible show wpAny _ _ (storeName _ _ _) _ _ _); k_here; k_dflt (first | (refine' storeI ?Fx5 ?Nx5 ?_ ?ax5 ?bx5; (case Fx5 | Nx5 => k_asm); (case ax5 | bx5 => rfl); k_whole; intro h' t' tk' F' N'; (try k_sweep); (try dsimp only)) | (refine' storeS ?Fx5 ?Nx5 ?_ ?ax5 ?bx5; (case Fx5 | Nx5 => k_asm); (case ax5 | bx5 => rfl); k_whole; intro h' t' tk' F' N'; (try k_sweep); (try dsimp only)) | (refine' storeB ?Fx5 ?Nx5 ?_ ?ax5 ?bx5; (case Fx5 | Nx5 => k_asm); (case ax5 | bx5 => rfl); k_whole; intro h' t' tk' F' N'; (try k_sweep); (try dsimp only))))
      | with_reducible ((with_reducible show wpAny _ _ (binaryOp Operator.LShift (Value.int _ _) (Value.int _ _)) _ _ _); k_here; (with_reducible refine' lshift_int_small ?kb1x4 ?kb2x4 ?kb3x4 ?_); (case kb1x4 | kb2x4 => decide); (case kb3x4 => ((try simp only [bitAnd_m16, bitAnd_m2, bitAnd_m4]); omega)))
      | with_reducible (k_here; (with_reducible show wpAny _ _ (subscriptTail _ _ (Value.bytes _ _) (Value.int _ _)) _ _ _); (with_unfolding_all refine' b64_item ?k1x3 ?k2x3 ?_ ?k4x3 ?k5x3; (case k1x3 | k2x3 => ((try simp only [bitAnd_m2, bitAnd_m4, bitAnd_m6, show Int.toNat 4 = 4 from rfl, show Int.toNat 2 = 2 from rfl]); omega)); (case k4x3 => with_unfolding_all rfl); (case k5x3 => (intro _; with_unfolding_all rfl)); k_whole); intro t' k' lo' hi')
      | with_reducible ((with_reducible show wpAny _ _ (pyIter (Value.bytes _ _)) _ _ _); (with_reducible show wpAny _ _ (pyIter (Value.bytes _ _)) (fun it s₂ => LoopAtV _ _ _ _ _ _ _ _ _ it s₂) _ _); k_here; k_bytesUnr)
      | with_reducible (k_here; (with_reducible show wpAny _ _ (call (Value.type "type") [Value.bytes _ _]) _ _ _); refine call_type_of (typeIs_bytes _ _ _) (by decide) ?_)
      | with_reducible (k_here; (with_reducible refine floordiv_int (p256_ne ?kbex0) ?_ (Or.inl (PyProof.noPylong_small (p256_small ?kbpx0)))); (case kbex0 | kbpx0 => omega))
      | walk1
      | (dsimp only)
      | (leave1; walk_say "STEP leave1"; try dsimp only)
      | fail "no step"))
  all_goals exact ret _ _ _ (Fr.keep (by assumption)) ⟨_, congrArg (fun l => Value.bytes (byteArr l) _) (rfl)⟩
theorem b2a1 (w : World) (bb : Array UInt8) (t : Tok) (a : Int) (hbb : KBw.bInts bb = [a]) (ha : 0 ≤ a ∧ a < 256) : Spec w 3 43 [.bytes bb t] [(Str.ofString "newline", .bool false)] (fun _ => True) (fun _ _ r => ∃ t', r = .bytes (byteArr [b64c (a / 4), b64c (a % 4 * 16), 61, 61]) t') := by
  intro mean mg mb dp un gd base outer s Q E B X T hd hu hp ret
  k_dflt (refine' enter (binds := [(Str.ofString "data", .bytes bb t), (Str.ofString "newline", .bool false)]) X T ?ho ?hcd ?hroom ?hbind ?hloc ?_ ?c2 ?c3 ?c4 ?c5)
  case ho => k_is
  case hcd => k_is
  case hroom => exact Nat.lt_of_le_of_lt (Nat.le_add_right _ _) hd
  case hbind => exact BindsTo.of_eq rfl
  case hloc => exact locs rfl
  case c2 => rfl
  case c3 => rfl
  case c4 => rfl
  case c5 => decide
  intro L h₁ F N
  (try dsimp only)
  (try k_fold)
  w_strict (repeat' (first
      | (k_unfold; (try dsimp only))
      | (k_end; wrow_close)
      | with_reducible ((with_reducible show wpAny _ _ (call (Value.ref _) _ _) _ _ _); k_here; k_dflt (refine' useA (sp_truth _ _) ?_; intro r' h' tk' F' N' K' P'; subst P'; (try k_sweep); (try dsimp only); (try k_fold)))
      | with_reducible ((with_reducible show wpAny _ _ (call (Value.ref _) _ _) _ _ _); k_here; k_dflt (refine' useA (sp_buffer _ _ _) ?_; intro r' h' tk' F' N' K' P'; subst P'; (try k_sweep); (try dsimp only); (try k_fold)))
      | with_reducible (k_here; (with_reducible show wpAny _ _ (call (Value.type "bytes") [Value.ref _]) _ _ _); k_dflt (refine' bytes_push ?kbaFx6 ?kbaNx6 ?kbahx6 ?kbalx6 ?kbaix6 ?kbarx6 ?kbanx6 ?_; (case kbaFx6 | kbaNx6 => k_asm); (case kbahx6 => rfl); (case kbalx6 => k_mem); (case kbaix6 => ((repeat apply ia_push); exact ia_nil)); (case kbarx6 => ((repeat (refine' in_push ?_ ?kax6 ?kbx6; (case kax6 | kbx6 => first | with_reducible assumption | decide))); exact in_nil)); (case kbanx6 => exact Nat.le_of_ble_eq_true rfl)); intro h' t' k' F' N')
      | with_reducible ((with_reducible show wpAny _ _ (storeName _ _ _) _ _ _); k_here; k_dflt (first | (refine' storeI ?Fx5 ?Nx5 ?_ ?ax5 ?bx5; (case Fx5 | Nx5 => k_asm); (case ax5 | bx5 => rfl); k_whole; intro h' t' tk' F' N'; (try k_sweep); (try dsimp only)) | (refine' storeS ?Fx5 ?Nx5 ?_ ?ax5 ?bx5; (case Fx5 | Nx5 => k_asm); (case ax5 | bx5 => rfl); k_whole; intro h' t' tk' F' N'; (try k_sweep); (try dsimp only)) | (refine' storeB ?Fx5 ?Nx5 ?_ ?ax5 ?bx5; (case Fx5 | Nx5 => k_asm); (case ax5 | bx5 => rfl); k_whole; intro h' t' tk' F' N'; (try k_sweep); (try dsimp only))))
      | with_reducible ((with_reducible show wpAny _ _ (binaryOp Operator.LShift (Value.int _ _) (Value.int _ _)) _ _ _); k_here; (with_reducible refine' lshift_int_small ?kb1x4 ?kb2x4 ?kb3x4 ?_); (case kb1x4 | kb2x4 => decide); (case kb3x4 => ((try simp only [bitAnd_m16, bitAnd_m2, bitAnd_m4]); omega)))
      | with_reducible (k_here; (with_reducible show wpAny _ _ (subscriptTail _ _ (Value.bytes _ _) (Value.int _ _)) _ _ _); (with_unfolding_all refine' b64_item ?k1x3 ?k2x3 ?_ ?k4x3 ?k5x3; (case k1x3 | k2x3 => ((try simp only [bitAnd_m2, bitAnd_m4, bitAnd_m6, show Int.toNat 4 = 4 from rfl, show Int.toNat 2 = 2 from rfl]); omega)); (case k4x3 => with_unfolding_all rfl); (case k5x3 => (intro _; with_unfolding_all rfl)); k_whole); intro t' k' lo' hi')
      | with_reducible ((with_reducible show wpAny _ _ (pyIter (Value.bytes _ _)) _ _ _); (with_reducible show wpAny _ _ (pyIter (Value.bytes _ _)) (fun it s₂ => LoopAtV _ _ _ _ _ _ _ _ _ it s₂) _ _); k_here; k_bytesUnr)
      | with_reducible (k_here; (with_reducible show wpAny _ _ (call (Value.type "type") [Value.bytes _ _]) _ _ _); refine call_type_of (typeIs_bytes _ _ _) (by decide) ?_)
      | with_reducible (k_here; (with_reducible refine floordiv_int (p256_ne ?kbex0) ?_ (Or.inl (PyProof.noPylong_small (p256_small ?kbpx0)))); (case kbex0 | kbpx0 => omega))
      | walk1
      | (dsimp only)
      | (leave1; walk_say "STEP leave1"; try dsimp only)
      | fail "no step"))
  all_goals exact ret _ _ _ (Fr.keep (by assumption)) ⟨_, congrArg (fun l => Value.bytes (byteArr l) _) (e1 ha)⟩
theorem b2a2 (w : World) (bb : Array UInt8) (t : Tok) (a b : Int) (hbb : KBw.bInts bb = [a, b]) (ha : 0 ≤ a ∧ a < 256) (hb : 0 ≤ b ∧ b < 256) : Spec w 3 43 [.bytes bb t] [(Str.ofString "newline", .bool false)] (fun _ => True) (fun _ _ r => ∃ t', r = .bytes (byteArr [b64c (a / 4), b64c (a % 4 * 16 + b / 16), b64c (b % 16 * 4), 61]) t') := by
  intro mean mg mb dp un gd base outer s Q E B X T hd hu hp ret
  k_dflt (refine' enter (binds := [(Str.ofString "data", .bytes bb t), (Str.ofString "newline", .bool false)]) X T ?ho ?hcd ?hroom ?hbind ?hloc ?_ ?c2 ?c3 ?c4 ?c5)
  case ho => k_is
  case hcd => k_is
  case hroom => exact Nat.lt_of_le_of_lt (Nat.le_add_right _ _) hd
  case hbind => exact BindsTo.of_eq rfl
  case hloc => exact locs rfl
  case c2 => rfl
  case c3 => rfl
  case c4 => rfl
  case c5 => decide
  intro L h₁ F N
  (try dsimp only)
  (try k_fold)
  w_strict (repeat' (first
      | (k_unfold; (try dsimp only))
      | (k_end; wrow_close)
      | with_reducible ((with_reducible show wpAny _ _ (call (Value.ref _) _ _) _ _ _); k_here; k_dflt (refine' useA (sp_truth _ _) ?_; intro r' h' tk' F' N' K' P'; subst P'; (try k_sweep); (try dsimp only); (try k_fold)))
      | with_reducible ((with_reducible show wpAny _ _ (call (Value.ref _) _ _) _ _ _); k_here; k_dflt (refine' useA (sp_buffer _ _ _) ?_; intro r' h' tk' F' N' K' P'; subst P'; (try k_sweep); (try dsimp only); (try k_fold)))
      | with_reducible (k_here; (with_reducible show wpAny _ _ (call (Value.type "bytes") [Value.ref _]) _ _ _); k_dflt (refine' bytes_push ?kbaFx6 ?kbaNx6 ?kbahx6 ?kbalx6 ?kbaix6 ?kbarx6 ?kbanx6 ?_; (case kbaFx6 | kbaNx6 => k_asm); (case kbahx6 => rfl); (case kbalx6 => k_mem); (case kbaix6 => ((repeat apply ia_push); exact ia_nil)); (case kbarx6 => ((repeat (refine' in_push ?_ ?kax6 ?kbx6; (case kax6 | kbx6 => first | with_reducible assumption | decide))); exact in_nil)); (case kbanx6 => exact Nat.le_of_ble_eq_true rfl)); intro h' t' k' F' N')
      | with_reducible ((with_reducible show wpAny _ _ (storeName _ _ _) _ _ _); k_here; k_dflt (first | (refine' storeI ?Fx5 ?Nx5 ?_ ?ax5 ?bx5; (case Fx5 | Nx5 => k_asm); (case ax5 | bx5 => rfl); k_whole; intro h' t' tk' F' N'; (try k_sweep); (try dsimp only)) | (refine' storeS ?Fx5 ?Nx5 ?_ ?ax5 ?bx5; (case Fx5 | Nx5 => k_asm); (case ax5 | bx5 => rfl); k_whole; intro h' t' tk' F' N'; (try k_sweep); (try dsimp only)) | (refine' storeB ?Fx5 ?Nx5 ?_ ?ax5 ?bx5; (case Fx5 | Nx5 => k_asm); (case ax5 | bx5 => rfl); k_whole; intro h' t' tk' F' N'; (try k_sweep); (try dsimp only))))
      | with_reducible ((with_reducible show wpAny _ _ (binaryOp Operator.LShift (Value.int _ _) (Value.int _ _)) _ _ _); k_here; (with_reducible refine' lshift_int_small ?kb1x4 ?kb2x4 ?kb3x4 ?_); (case kb1x4 | kb2x4 => decide); (case kb3x4 => ((try simp only [bitAnd_m16, bitAnd_m2, bitAnd_m4]); omega)))
      | with_reducible (k_here; (with_reducible show wpAny _ _ (subscriptTail _ _ (Value.bytes _ _) (Value.int _ _)) _ _ _); (with_unfolding_all refine' b64_item ?k1x3 ?k2x3 ?_ ?k4x3 ?k5x3; (case k1x3 | k2x3 => ((try simp only [bitAnd_m2, bitAnd_m4, bitAnd_m6, show Int.toNat 4 = 4 from rfl, show Int.toNat 2 = 2 from rfl]); omega)); (case k4x3 => with_unfolding_all rfl); (case k5x3 => (intro _; with_unfolding_all rfl)); k_whole); intro t' k' lo' hi')
      | with_reducible ((with_reducible show wpAny _ _ (pyIter (Value.bytes _ _)) _ _ _); (with_reducible show wpAny _ _ (pyIter (Value.bytes _ _)) (fun it s₂ => LoopAtV _ _ _ _ _ _ _ _ _ it s₂) _ _); k_here; k_bytesUnr)
      | with_reducible (k_here; (with_reducible show wpAny _ _ (call (Value.type "type") [Value.bytes _ _]) _ _ _); refine call_type_of (typeIs_bytes _ _ _) (by decide) ?_)
      | with_reducible (k_here; (with_reducible refine floordiv_int (p256_ne ?kbex0) ?_ (Or.inl (PyProof.noPylong_small (p256_small ?kbpx0)))); (case kbex0 | kbpx0 => omega))
      | walk1
      | (dsimp only)
      | (leave1; walk_say "STEP leave1"; try dsimp only)
      | fail "no step"))
  all_goals exact ret _ _ _ (Fr.keep (by assumption)) ⟨_, congrArg (fun l => Value.bytes (byteArr l) _) (e2 ha hb)⟩
theorem b2a3 (w : World) (bb : Array UInt8) (t : Tok) (a b c : Int) (hbb : KBw.bInts bb = [a, b, c]) (ha : 0 ≤ a ∧ a < 256) (hb : 0 ≤ b ∧ b < 256) (hc : 0 ≤ c ∧ c < 256) : Spec w 3 43 [.bytes bb t] [(Str.ofString "newline", .bool false)] (fun _ => True) (fun _ _ r => ∃ t', r = .bytes (byteArr [b64c (a / 4), b64c (a % 4 * 16 + b / 16), b64c (b % 16 * 4 + c / 64), b64c (c % 64)]) t') := by
  intro mean mg mb dp un gd base outer s Q E B X T hd hu hp ret
  k_dflt (refine' enter (binds := [(Str.ofString "data", .bytes bb t), (Str.ofString "newline", .bool false)]) X T ?ho ?hcd ?hroom ?hbind ?hloc ?_ ?c2 ?c3 ?c4 ?c5)
  case ho => k_is
  case hcd => k_is
  case hroom => exact Nat.lt_of_le_of_lt (Nat.le_add_right _ _) hd
  case hbind => exact BindsTo.of_eq rfl
  case hloc => exact locs rfl
  case c2 => rfl
  case c3 => rfl
  case c4 => rfl
  case c5 => decide
  intro L h₁ F N
  (try dsimp only)
  (try k_fold)
  w_strict (repeat' (first
      | (k_unfold; (try dsimp only))
      | (k_end; wrow_close)
      | with_reducible ((with_reducible show wpAny _ _ (call (Value.ref _) _ _) _ _ _); k_here; k_dflt (refine' useA (sp_truth _ _) ?_; intro r' h' tk' F' N' K' P'; subst P'; (try k_sweep); (try dsimp only); (try k_fold)))
      | with_reducible ((with_reducible show wpAny _ _ (call (Value.ref _) _ _) _ _ _); k_here; k_dflt (refine' useA (sp_buffer _ _ _) ?_; intro r' h' tk' F' N' K' P'; subst P'; (try k_sweep); (try dsimp only); (try k_fold)))
      | with_reducible (k_here; (with_reducible show wpAny _ _ (call (Value.type "bytes") [Value.ref _]) _ _ _); k_dflt (refine' bytes_push ?kbaFx6 ?kbaNx6 ?kbahx6 ?kbalx6 ?kbaix6 ?kbarx6 ?kbanx6 ?_; (case kbaFx6 | kbaNx6 => k_asm); (case kbahx6 => rfl); (case kbalx6 => k_mem); (case kbaix6 => ((repeat apply ia_push); exact ia_nil)); (case kbarx6 => ((repeat (refine' in_push ?_ ?kax6 ?kbx6; (case kax6 | kbx6 => first | with_reducible assumption | decide))); exact in_nil)); (case kbanx6 => exact Nat.le_of_ble_eq_true rfl)); intro h' t' k' F' N')
      | with_reducible ((with_reducible show wpAny _ _ (storeName _ _ _) _ _ _); k_here; k_dflt (first | (refine' storeI ?Fx5 ?Nx5 ?_ ?ax5 ?bx5; (case Fx5 | Nx5 => k_asm); (case ax5 | bx5 => rfl); k_whole; intro h' t' tk' F' N'; (try k_sweep); (try dsimp only)) | (refine' storeS ?Fx5 ?Nx5 ?_ ?ax5 ?bx5; (case Fx5 | Nx5 => k_asm); (case ax5 | bx5 => rfl); k_whole; intro h' t' tk' F' N'; (try k_sweep); (try dsimp only)) | (refine' storeB ?Fx5 ?Nx5 ?_ ?ax5 ?bx5; (case Fx5 | Nx5 => k_asm); (case ax5 | bx5 => rfl); k_whole; intro h' t' tk' F' N'; (try k_sweep); (try dsimp only))))
      | with_reducible ((with_reducible show wpAny _ _ (binaryOp Operator.LShift (Value.int _ _) (Value.int _ _)) _ _ _); k_here; (with_reducible refine' lshift_int_small ?kb1x4 ?kb2x4 ?kb3x4 ?_); (case kb1x4 | kb2x4 => decide); (case kb3x4 => ((try simp only [bitAnd_m16, bitAnd_m2, bitAnd_m4]); omega)))
      | with_reducible (k_here; (with_reducible show wpAny _ _ (subscriptTail _ _ (Value.bytes _ _) (Value.int _ _)) _ _ _); (with_unfolding_all refine' b64_item ?k1x3 ?k2x3 ?_ ?k4x3 ?k5x3; (case k1x3 | k2x3 => ((try simp only [bitAnd_m2, bitAnd_m4, bitAnd_m6, show Int.toNat 4 = 4 from rfl, show Int.toNat 2 = 2 from rfl]); omega)); (case k4x3 => with_unfolding_all rfl); (case k5x3 => (intro _; with_unfolding_all rfl)); k_whole); intro t' k' lo' hi')
      | with_reducible ((with_reducible show wpAny _ _ (pyIter (Value.bytes _ _)) _ _ _); (with_reducible show wpAny _ _ (pyIter (Value.bytes _ _)) (fun it s₂ => LoopAtV _ _ _ _ _ _ _ _ _ it s₂) _ _); k_here; k_bytesUnr)
      | with_reducible (k_here; (with_reducible show wpAny _ _ (call (Value.type "type") [Value.bytes _ _]) _ _ _); refine call_type_of (typeIs_bytes _ _ _) (by decide) ?_)
      | with_reducible (k_here; (with_reducible refine floordiv_int (p256_ne ?kbex0) ?_ (Or.inl (PyProof.noPylong_small (p256_small ?kbpx0)))); (case kbex0 | kbpx0 => omega))
      | walk1
      | (dsimp only)
      | (leave1; walk_say "STEP leave1"; try dsimp only)
      | fail "no step"))
  all_goals exact ret _ _ _ (Fr.keep (by assumption)) ⟨_, congrArg (fun l => Value.bytes (byteArr l) _) (e3 ha hb hc)⟩
end Mine
end

section
open PySem PySem.W PyProof.Rows PySem.Calls
set_option maxRecDepth 100000
set_option maxHeartbeats 8000000
namespace Mine
/-- the head leaves its own lines switched on: off again -/
theorem offP2 : True := by w_top off; trivial
/-- what standard_b64encode writes of up to three octets -/
def b64I : List Int → List Int
  | [a] => [b64c (a / 4), b64c (a % 4 * 16), 61, 61]
  | [a, b] => [b64c (a / 4), b64c (a % 4 * 16 + b / 16), b64c (b % 16 * 4), 61]
  | [a, b, c] => [b64c (a / 4), b64c (a % 4 * 16 + b / 16), b64c (b % 16 * 4 + c / 64), b64c (c % 64)]
  | _ => []
theorem sp_b2a (w : World) (o : List Int) (t : Tok) (hin : KBa.In o) (hl : o.length ≤ 3) : Spec w 3 43 [.bytes (byteArr o) t] [(Str.ofString "newline", .bool false)] (fun _ => True) (fun _ _ r => ∃ t', r = .bytes (byteArr (b64I o)) t') := by
  have hb := KBa.ints_make hin
  match o, hin, hl, hb with
  | [], _, _, hb => exact b2a0 w _ t hb
  | [a], hin, _, hb => exact b2a1 w _ t a hb (hin a (by simp))
  | [a, b], hin, _, hb => exact b2a2 w _ t a b hb (hin a (by simp)) (hin b (by simp))
  | [a, b, c], hin, _, hb => exact b2a3 w _ t a b c hb (hin a (by simp)) (hin b (by simp)) (hin c (by simp))
  | _ :: _ :: _ :: _ :: _, _, hl, _ => exact absurd hl (by simp only [List.length_cons]; omega)
/-- the table of urlsafe_b64encode -/
def urlTab : Array UInt8 := #[0, 1, 2, 3, 4, 5, 6, 7, 8, 9, 10, 11, 12, 13, 14, 15, 16, 17, 18, 19, 20, 21, 22, 23, 24, 25, 26, 27, 28, 29, 30, 31, 32, 33, 34, 35, 36, 37, 38, 39, 40, 41, 42, 45, 44, 45, 46, 95, 48, 49, 50, 51, 52, 53, 54, 55, 56, 57, 58, 59, 60, 61, 62, 63, 64, 65, 66, 67, 68, 69, 70, 71, 72, 73, 74, 75, 76, 77, 78, 79, 80, 81, 82, 83, 84, 85, 86, 87, 88, 89, 90, 91, 92, 93, 94, 95, 96, 97, 98, 99, 100, 101, 102, 103, 104, 105, 106, 107, 108, 109, 110, 111, 112, 113, 114, 115, 116, 117, 118, 119, 120, 121, 122, 123, 124, 125, 126, 127, 128, 129, 130, 131, 132, 133, 134, 135, 136, 137, 138, 139, 140, 141, 142, 143, 144, 145, 146, 147, 148, 149, 150, 151, 152, 153, 154, 155, 156, 157, 158, 159, 160, 161, 162, 163, 164, 165, 166, 167, 168, 169, 170, 171, 172, 173, 174, 175, 176, 177, 178, 179, 180, 181, 182, 183, 184, 185, 186, 187, 188, 189, 190, 191, 192, 193, 194, 195, 196, 197, 198, 199, 200, 201, 202, 203, 204, 205, 206, 207, 208, 209, 210, 211, 212, 213, 214, 215, 216, 217, 218, 219, 220, 221, 222, 223, 224, 225, 226, 227, 228, 229, 230, 231, 232, 233, 234, 235, 236, 237, 238, 239, 240, 241, 242, 243, 244, 245, 246, 247, 248, 249, 250, 251, 252, 253, 254, 255]
theorem b64I_le (o : List Int) : (b64I o).length ≤ 4 := by
  match o with
  | [] | [_] | [_, _] | [_, _, _] | _ :: _ :: _ :: _ :: _ => simp [b64I]
theorem sp_b64 (w : World) (o : List Int) (t : Tok) (hin : KBa.In o) (hl : o.length ≤ 3) : Spec w 5 60 [.bytes (byteArr o) t] [] (fun _ => True) (fun _ _ r => ∃ t', r = .bytes (byteArr (b64I o)) t') := by
  intro mean mg mb dp un gd base outer s Q E B X T hd hu hp ret
  k_dflt (refine' enter (binds := [(Str.ofString "s", .bytes (byteArr o) t), (Str.ofString "altchars", .none)]) X T ?ho ?hcd ?hroom ?hbind ?hloc ?_ ?c2 ?c3 ?c4 ?c5)
  case ho => k_is
  case hcd => k_is
  case hroom => exact Nat.lt_of_le_of_lt (Nat.le_add_right _ _) hd
  case hbind => exact binds_K X rfl (by k_is) rfl rfl rfl
  case hloc => exact locs rfl
  case c2 => rfl
  case c3 => rfl
  case c4 => rfl
  case c5 => decide
  intro L h₁ F N
  (try dsimp only)
  (try k_fold)
  w_strict (repeat' (first
      | (k_unfold; (try dsimp only))
      | (k_end; wrow_close)
      | with_reducible ((with_reducible show wpAny _ _ (call (Value.ref _) _ _) _ _ _); k_here; k_dflt (refine' useA (sp_b2a _ _ _ (by assumption) (by assumption)) ?_; intro r' h' tk' F' N' K' P'; obtain ⟨t9, e9⟩ := P'; subst e9; (try k_sweep); (try dsimp only); (try k_fold)))
      | with_reducible ((with_reducible show wpAny _ _ (call (Value.ref _) _ _) _ _ _); k_here; k_dflt (refine' useA (sp_buffer _ _ _) ?_; intro r' h' tk' F' N' K' P'; subst P'; (try k_sweep); (try dsimp only); (try k_fold)))
      | with_reducible (k_here; (with_reducible refine meth_encode ?_))
      | with_reducible (k_here; (with_reducible show wpAny _ _ (call (Value.builtin "str.encode") [Value.str _ _, Value.str _ _]) _ _ _); (refine call_encode (by (first | assumption | exact hexOf_low _)) (by (first | assumption | omega | (simp only [List.size_toArray, hexOf_length, Array.length_toList]; omega))) ?_); intro t' k')
      | with_reducible (k_here; (with_reducible show wpAny _ _ (call (Value.builtin "bytes.translate") [Value.bytes _ _, Value.bytes _ _]) _ _ _); (refine call_translate (by decide) (by (first | assumption | omega | (simp only [byteArr_size]; omega))) ?_); intro t' k')
      | with_reducible (k_here; (with_reducible show wpAny _ _ (call (Value.builtin "bytes.upper") [Value.bytes _ _]) _ _ _); (refine call_upper (by (first | assumption | omega | (simp only [Array.size_map, List.size_toArray, hexOf_length, Array.length_toList]; omega))) ?_); intro t' k')
      | with_reducible (k_here; (with_reducible show wpAny _ _ (call (Value.builtin "bytes.hex") [Value.bytes _ _]) _ _ _); (refine call_hex (by (first | assumption | omega)) ?_); intro t' k')
      | with_reducible (k_here; first | (with_reducible refine meth_hex ?_) | (with_reducible refine meth_upper ?_) | (with_reducible refine meth_translate ?_))
      | with_reducible (k_here; (with_reducible show wpAny _ _ (call (Value.type "bytes") [Value.ref _]) _ _ _); k_dflt (refine' bytes_push ?kbaFx6 ?kbaNx6 ?kbahx6 ?kbalx6 ?kbaix6 ?kbarx6 ?kbanx6 ?_; (case kbaFx6 | kbaNx6 => k_asm); (case kbahx6 => rfl); (case kbalx6 => k_mem); (case kbaix6 => ((repeat apply ia_push); exact ia_nil)); (case kbarx6 => ((repeat (refine' in_push ?_ ?kax6 ?kbx6; (case kax6 | kbx6 => first | with_reducible assumption | decide))); exact in_nil)); (case kbanx6 => exact Nat.le_of_ble_eq_true rfl)); intro h' t' k' F' N')
      | with_reducible ((with_reducible show wpAny _ _ (storeName _ _ _) _ _ _); k_here; k_dflt (first | (refine' storeI ?Fx5 ?Nx5 ?_ ?ax5 ?bx5; (case Fx5 | Nx5 => k_asm); (case ax5 | bx5 => rfl); k_whole; intro h' t' tk' F' N'; (try k_sweep); (try dsimp only)) | (refine' storeS ?Fx5 ?Nx5 ?_ ?ax5 ?bx5; (case Fx5 | Nx5 => k_asm); (case ax5 | bx5 => rfl); k_whole; intro h' t' tk' F' N'; (try k_sweep); (try dsimp only)) | (refine' storeB ?Fx5 ?Nx5 ?_ ?ax5 ?bx5; (case Fx5 | Nx5 => k_asm); (case ax5 | bx5 => rfl); k_whole; intro h' t' tk' F' N'; (try k_sweep); (try dsimp only))))
      | with_reducible ((with_reducible show wpAny _ _ (binaryOp Operator.LShift (Value.int _ _) (Value.int _ _)) _ _ _); k_here; (with_reducible refine' lshift_int_small ?kb1x4 ?kb2x4 ?kb3x4 ?_); (case kb1x4 | kb2x4 => decide); (case kb3x4 => ((try simp only [bitAnd_m16, bitAnd_m2, bitAnd_m4]); omega)))
      | with_reducible (k_here; (with_reducible show wpAny _ _ (subscriptTail _ _ (Value.bytes _ _) (Value.int _ _)) _ _ _); (with_unfolding_all refine' b64_item ?k1x3 ?k2x3 ?_ ?k4x3 ?k5x3; (case k1x3 | k2x3 => ((try simp only [bitAnd_m2, bitAnd_m4, bitAnd_m6, show Int.toNat 4 = 4 from rfl, show Int.toNat 2 = 2 from rfl]); omega)); (case k4x3 => with_unfolding_all rfl); (case k5x3 => (intro _; with_unfolding_all rfl)); k_whole); intro t' k' lo' hi')
      | with_reducible ((with_reducible show wpAny _ _ (pyIter (Value.bytes _ _)) _ _ _); (with_reducible show wpAny _ _ (pyIter (Value.bytes _ _)) (fun it s₂ => LoopAtV _ _ _ _ _ _ _ _ _ it s₂) _ _); k_here; k_bytesUnr)
      | with_reducible (k_here; (with_reducible show wpAny _ _ (call (Value.type "type") [Value.bytes _ _]) _ _ _); refine call_type_of (typeIs_bytes _ _ _) (by decide) ?_)
      | with_reducible (k_here; (with_reducible refine floordiv_int (p256_ne ?kbex0) ?_ (Or.inl (PyProof.noPylong_small (p256_small ?kbpx0)))); (case kbex0 | kbpx0 => omega))
      | walk1
      | (dsimp only)
      | (leave1; walk_say "STEP leave1"; try dsimp only)
      | fail "no step"))
  all_goals exact ret _ _ _ (Fr.keep (by assumption)) ⟨_, rfl⟩
theorem sp_std (w : World) (o : List Int) (t : Tok) (hin : KBa.In o) (hl : o.length ≤ 3) : Spec w 6 67 [.bytes (byteArr o) t] [] (fun _ => True) (fun _ _ r => ∃ t', r = .bytes (byteArr (b64I o)) t') := by
  intro mean mg mb dp un gd base outer s Q E B X T hd hu hp ret
  k_dflt (refine' enter (binds := [(Str.ofString "s", .bytes (byteArr o) t)]) X T ?ho ?hcd ?hroom ?hbind ?hloc ?_ ?c2 ?c3 ?c4 ?c5)
  case ho => k_is
  case hcd => k_is
  case hroom => exact Nat.lt_of_le_of_lt (Nat.le_add_right _ _) hd
  case hbind => exact BindsTo.of_eq rfl
  case hloc => exact locs rfl
  case c2 => rfl
  case c3 => rfl
  case c4 => rfl
  case c5 => decide
  intro L h₁ F N
  (try dsimp only)
  (try k_fold)
  w_strict (repeat' (first
      | (k_unfold; (try dsimp only))
      | (k_end; wrow_close)
      | with_reducible ((with_reducible show wpAny _ _ (call (Value.ref _) _ _) _ _ _); k_here; k_dflt (refine' useA (sp_b64 _ _ _ (by assumption) (by assumption)) ?_; intro r' h' tk' F' N' K' P'; obtain ⟨t9, e9⟩ := P'; subst e9; (try k_sweep); (try dsimp only); (try k_fold)))
      | with_reducible ((with_reducible show wpAny _ _ (call (Value.ref _) _ _) _ _ _); k_here; k_dflt (refine' useA (sp_b2a _ _ _ (by assumption) (by assumption)) ?_; intro r' h' tk' F' N' K' P'; obtain ⟨t9, e9⟩ := P'; subst e9; (try k_sweep); (try dsimp only); (try k_fold)))
      | with_reducible ((with_reducible show wpAny _ _ (call (Value.ref _) _ _) _ _ _); k_here; k_dflt (refine' useA (sp_buffer _ _ _) ?_; intro r' h' tk' F' N' K' P'; subst P'; (try k_sweep); (try dsimp only); (try k_fold)))
      | with_reducible (k_here; (with_reducible refine meth_encode ?_))
      | with_reducible (k_here; (with_reducible show wpAny _ _ (call (Value.builtin "str.encode") [Value.str _ _, Value.str _ _]) _ _ _); (refine call_encode (by (first | assumption | exact hexOf_low _)) (by (first | assumption | omega | (simp only [List.size_toArray, hexOf_length, Array.length_toList]; omega))) ?_); intro t' k')
      | with_reducible (k_here; (with_reducible show wpAny _ _ (call (Value.builtin "bytes.translate") [Value.bytes _ _, Value.bytes _ _]) _ _ _); (refine call_translate (by decide) (by (first | assumption | omega | (simp only [byteArr_size]; omega))) ?_); intro t' k')
      | with_reducible (k_here; (with_reducible show wpAny _ _ (call (Value.builtin "bytes.upper") [Value.bytes _ _]) _ _ _); (refine call_upper (by (first | assumption | omega | (simp only [Array.size_map, List.size_toArray, hexOf_length, Array.length_toList]; omega))) ?_); intro t' k')
      | with_reducible (k_here; (with_reducible show wpAny _ _ (call (Value.builtin "bytes.hex") [Value.bytes _ _]) _ _ _); (refine call_hex (by (first | assumption | omega)) ?_); intro t' k')
      | with_reducible (k_here; first | (with_reducible refine meth_hex ?_) | (with_reducible refine meth_upper ?_) | (with_reducible refine meth_translate ?_))
      | with_reducible (k_here; (with_reducible show wpAny _ _ (call (Value.type "bytes") [Value.ref _]) _ _ _); k_dflt (refine' bytes_push ?kbaFx6 ?kbaNx6 ?kbahx6 ?kbalx6 ?kbaix6 ?kbarx6 ?kbanx6 ?_; (case kbaFx6 | kbaNx6 => k_asm); (case kbahx6 => rfl); (case kbalx6 => k_mem); (case kbaix6 => ((repeat apply ia_push); exact ia_nil)); (case kbarx6 => ((repeat (refine' in_push ?_ ?kax6 ?kbx6; (case kax6 | kbx6 => first | with_reducible assumption | decide))); exact in_nil)); (case kbanx6 => exact Nat.le_of_ble_eq_true rfl)); intro h' t' k' F' N')
      | with_reducible ((with_reducible show wpAny _ _ (storeName _ _ _) _ _ _); k_here; k_dflt (first | (refine' storeI ?Fx5 ?Nx5 ?_ ?ax5 ?bx5; (case Fx5 | Nx5 => k_asm); (case ax5 | bx5 => rfl); k_whole; intro h' t' tk' F' N'; (try k_sweep); (try dsimp only)) | (refine' storeS ?Fx5 ?Nx5 ?_ ?ax5 ?bx5; (case Fx5 | Nx5 => k_asm); (case ax5 | bx5 => rfl); k_whole; intro h' t' tk' F' N'; (try k_sweep); (try dsimp only)) | (refine' storeB ?Fx5 ?Nx5 ?_ ?ax5 ?bx5; (case Fx5 | Nx5 => k_asm); (case ax5 | bx5 => rfl); k_whole; intro h' t' tk' F' N'; (try k_sweep); (try dsimp only))))
      | with_reducible ((with_reducible show wpAny _ _ (binaryOp Operator.LShift (Value.int _ _) (Value.int _ _)) _ _ _); k_here; (with_reducible refine' lshift_int_small ?kb1x4 ?kb2x4 ?kb3x4 ?_); (case kb1x4 | kb2x4 => decide); (case kb3x4 => ((try simp only [bitAnd_m16, bitAnd_m2, bitAnd_m4]); omega)))
      | with_reducible (k_here; (with_reducible show wpAny _ _ (subscriptTail _ _ (Value.bytes _ _) (Value.int _ _)) _ _ _); (with_unfolding_all refine' b64_item ?k1x3 ?k2x3 ?_ ?k4x3 ?k5x3; (case k1x3 | k2x3 => ((try simp only [bitAnd_m2, bitAnd_m4, bitAnd_m6, show Int.toNat 4 = 4 from rfl, show Int.toNat 2 = 2 from rfl]); omega)); (case k4x3 => with_unfolding_all rfl); (case k5x3 => (intro _; with_unfolding_all rfl)); k_whole); intro t' k' lo' hi')
      | with_reducible ((with_reducible show wpAny _ _ (pyIter (Value.bytes _ _)) _ _ _); (with_reducible show wpAny _ _ (pyIter (Value.bytes _ _)) (fun it s₂ => LoopAtV _ _ _ _ _ _ _ _ _ it s₂) _ _); k_here; k_bytesUnr)
      | with_reducible (k_here; (with_reducible show wpAny _ _ (call (Value.type "type") [Value.bytes _ _]) _ _ _); refine call_type_of (typeIs_bytes _ _ _) (by decide) ?_)
      | with_reducible (k_here; (with_reducible refine floordiv_int (p256_ne ?kbex0) ?_ (Or.inl (PyProof.noPylong_small (p256_small ?kbpx0)))); (case kbex0 | kbpx0 => omega))
      | walk1
      | (dsimp only)
      | (leave1; walk_say "STEP leave1"; try dsimp only)
      | fail "no step"))
  all_goals exact ret _ _ _ (Fr.keep (by assumption)) ⟨_, rfl⟩

theorem sp_url (w : World) (o : List Int) (t : Tok) (hin : KBa.In o) (hl : o.length ≤ 3) : Spec w 6 74 [.bytes (byteArr o) t] [] (fun _ => True) (fun _ _ r => ∃ t', r = .bytes (trOf urlTab (byteArr (b64I o))) t') := by
  have hl4 := b64I_le o
  intro mean mg mb dp un gd base outer s Q E B X T hd hu hp ret
  k_dflt (refine' enter (binds := [(Str.ofString "s", .bytes (byteArr o) t)]) X T ?ho ?hcd ?hroom ?hbind ?hloc ?_ ?c2 ?c3 ?c4 ?c5)
  case ho => k_is
  case hcd => k_is
  case hroom => exact Nat.lt_of_le_of_lt (Nat.le_add_right _ _) hd
  case hbind => exact BindsTo.of_eq rfl
  case hloc => exact locs rfl
  case c2 => rfl
  case c3 => rfl
  case c4 => rfl
  case c5 => decide
  intro L h₁ F N
  (try dsimp only)
  (try k_fold)
  w_strict (repeat' (first
      | (k_unfold; (try dsimp only))
      | (k_end; wrow_close)
      | with_reducible ((with_reducible show wpAny _ _ (call (Value.ref _) _ _) _ _ _); k_here; k_dflt (refine' useA (sp_b64 _ _ _ (by assumption) (by assumption)) ?_; intro r' h' tk' F' N' K' P'; obtain ⟨t9, e9⟩ := P'; subst e9; (try k_sweep); (try dsimp only); (try k_fold)))
      | with_reducible ((with_reducible show wpAny _ _ (call (Value.ref _) _ _) _ _ _); k_here; k_dflt (refine' useA (sp_b2a _ _ _ (by assumption) (by assumption)) ?_; intro r' h' tk' F' N' K' P'; obtain ⟨t9, e9⟩ := P'; subst e9; (try k_sweep); (try dsimp only); (try k_fold)))
      | with_reducible ((with_reducible show wpAny _ _ (call (Value.ref _) _ _) _ _ _); k_here; k_dflt (refine' useA (sp_buffer _ _ _) ?_; intro r' h' tk' F' N' K' P'; subst P'; (try k_sweep); (try dsimp only); (try k_fold)))
      | with_reducible (k_here; (with_reducible refine meth_encode ?_))
      | with_reducible (k_here; (with_reducible show wpAny _ _ (call (Value.builtin "str.encode") [Value.str _ _, Value.str _ _]) _ _ _); (refine call_encode (by (first | assumption | exact hexOf_low _)) (by (first | assumption | omega | (simp only [List.size_toArray, hexOf_length, Array.length_toList]; omega))) ?_); intro t' k')
      | with_reducible (k_here; (with_reducible show wpAny _ _ (call (Value.builtin "bytes.translate") [Value.bytes _ _, Value.bytes _ _]) _ _ _); (refine call_translate (by decide) (by (first | assumption | omega | (simp only [byteArr_size]; omega))) ?_); intro t' k')
      | with_reducible (k_here; (with_reducible show wpAny _ _ (call (Value.builtin "bytes.upper") [Value.bytes _ _]) _ _ _); (refine call_upper (by (first | assumption | omega | (simp only [Array.size_map, List.size_toArray, hexOf_length, Array.length_toList]; omega))) ?_); intro t' k')
      | with_reducible (k_here; (with_reducible show wpAny _ _ (call (Value.builtin "bytes.hex") [Value.bytes _ _]) _ _ _); (refine call_hex (by (first | assumption | omega)) ?_); intro t' k')
      | with_reducible (k_here; first | (with_reducible refine meth_hex ?_) | (with_reducible refine meth_upper ?_) | (with_reducible refine meth_translate ?_))
      | with_reducible (k_here; (with_reducible show wpAny _ _ (call (Value.type "bytes") [Value.ref _]) _ _ _); k_dflt (refine' bytes_push ?kbaFx6 ?kbaNx6 ?kbahx6 ?kbalx6 ?kbaix6 ?kbarx6 ?kbanx6 ?_; (case kbaFx6 | kbaNx6 => k_asm); (case kbahx6 => rfl); (case kbalx6 => k_mem); (case kbaix6 => ((repeat apply ia_push); exact ia_nil)); (case kbarx6 => ((repeat (refine' in_push ?_ ?kax6 ?kbx6; (case kax6 | kbx6 => first | with_reducible assumption | decide))); exact in_nil)); (case kbanx6 => exact Nat.le_of_ble_eq_true rfl)); intro h' t' k' F' N')
      | with_reducible ((with_reducible show wpAny _ _ (storeName _ _ _) _ _ _); k_here; k_dflt (first | (refine' storeI ?Fx5 ?Nx5 ?_ ?ax5 ?bx5; (case Fx5 | Nx5 => k_asm); (case ax5 | bx5 => rfl); k_whole; intro h' t' tk' F' N'; (try k_sweep); (try dsimp only)) | (refine' storeS ?Fx5 ?Nx5 ?_ ?ax5 ?bx5; (case Fx5 | Nx5 => k_asm); (case ax5 | bx5 => rfl); k_whole; intro h' t' tk' F' N'; (try k_sweep); (try dsimp only)) | (refine' storeB ?Fx5 ?Nx5 ?_ ?ax5 ?bx5; (case Fx5 | Nx5 => k_asm); (case ax5 | bx5 => rfl); k_whole; intro h' t' tk' F' N'; (try k_sweep); (try dsimp only))))
      | with_reducible ((with_reducible show wpAny _ _ (binaryOp Operator.LShift (Value.int _ _) (Value.int _ _)) _ _ _); k_here; (with_reducible refine' lshift_int_small ?kb1x4 ?kb2x4 ?kb3x4 ?_); (case kb1x4 | kb2x4 => decide); (case kb3x4 => ((try simp only [bitAnd_m16, bitAnd_m2, bitAnd_m4]); omega)))
      | with_reducible (k_here; (with_reducible show wpAny _ _ (subscriptTail _ _ (Value.bytes _ _) (Value.int _ _)) _ _ _); (with_unfolding_all refine' b64_item ?k1x3 ?k2x3 ?_ ?k4x3 ?k5x3; (case k1x3 | k2x3 => ((try simp only [bitAnd_m2, bitAnd_m4, bitAnd_m6, show Int.toNat 4 = 4 from rfl, show Int.toNat 2 = 2 from rfl]); omega)); (case k4x3 => with_unfolding_all rfl); (case k5x3 => (intro _; with_unfolding_all rfl)); k_whole); intro t' k' lo' hi')
      | with_reducible ((with_reducible show wpAny _ _ (pyIter (Value.bytes _ _)) _ _ _); (with_reducible show wpAny _ _ (pyIter (Value.bytes _ _)) (fun it s₂ => LoopAtV _ _ _ _ _ _ _ _ _ it s₂) _ _); k_here; k_bytesUnr)
      | with_reducible (k_here; (with_reducible show wpAny _ _ (call (Value.type "type") [Value.bytes _ _]) _ _ _); refine call_type_of (typeIs_bytes _ _ _) (by decide) ?_)
      | with_reducible (k_here; (with_reducible refine floordiv_int (p256_ne ?kbex0) ?_ (Or.inl (PyProof.noPylong_small (p256_small ?kbpx0)))); (case kbex0 | kbpx0 => omega))
      | walk1
      | (dsimp only)
      | (leave1; walk_say "STEP leave1"; try dsimp only)
      | fail "no step"))
  all_goals exact ret _ _ _ (Fr.keep (by assumption)) ⟨_, rfl⟩

theorem sp_hex (w : World) (o : List Int) (t : Tok) (hl : (byteArr o).size ≤ 3) : Spec w 3 52 [.bytes (byteArr o) t] [] (fun _ => True) (fun _ _ r => ∃ t', r = .bytes (((hexOf (byteArr o).toList).toArray).map Nat.toUInt8) t') := by
  intro mean mg mb dp un gd base outer s Q E B X T hd hu hp ret
  k_dflt (refine' enter (binds := [(Str.ofString "data", .bytes (byteArr o) t), (Str.ofString "sep", .ref 44), (Str.ofString "bytes_per_sep", .int 1 229)]) X T ?ho ?hcd ?hroom ?hbind ?hloc ?_ ?c2 ?c3 ?c4 ?c5)
  case ho => k_is
  case hcd => k_is
  case hroom => exact Nat.lt_of_le_of_lt (Nat.le_add_right _ _) hd
  case hbind => exact binds_K X rfl (by k_is) rfl rfl rfl
  case hloc => exact locs rfl
  case c2 => rfl
  case c3 => rfl
  case c4 => rfl
  case c5 => decide
  intro L h₁ F N
  (try dsimp only)
  (try k_fold)
  w_strict (repeat' (first
      | (k_unfold; (try dsimp only))
      | (k_end; wrow_close)
      | with_reducible ((with_reducible show wpAny _ _ (call (Value.ref _) _ _) _ _ _); k_here; k_dflt (refine' useA (sp_b64 _ _ _ (by assumption) (by assumption)) ?_; intro r' h' tk' F' N' K' P'; obtain ⟨t9, e9⟩ := P'; subst e9; (try k_sweep); (try dsimp only); (try k_fold)))
      | with_reducible ((with_reducible show wpAny _ _ (call (Value.ref _) _ _) _ _ _); k_here; k_dflt (refine' useA (sp_b2a _ _ _ (by assumption) (by assumption)) ?_; intro r' h' tk' F' N' K' P'; obtain ⟨t9, e9⟩ := P'; subst e9; (try k_sweep); (try dsimp only); (try k_fold)))
      | with_reducible ((with_reducible show wpAny _ _ (call (Value.ref _) _ _) _ _ _); k_here; k_dflt (refine' useA (sp_buffer _ _ _) ?_; intro r' h' tk' F' N' K' P'; subst P'; (try k_sweep); (try dsimp only); (try k_fold)))
      | with_reducible (k_here; (with_reducible refine meth_encode ?_))
      | with_reducible (k_here; (with_reducible show wpAny _ _ (call (Value.builtin "str.encode") [Value.str _ _, Value.str _ _]) _ _ _); (refine call_encode (by (first | assumption | exact hexOf_low _)) (by (first | assumption | omega | (simp only [List.size_toArray, hexOf_length, Array.length_toList]; omega))) ?_); intro t' k')
      | with_reducible (k_here; (with_reducible show wpAny _ _ (call (Value.builtin "bytes.translate") [Value.bytes _ _, Value.bytes _ _]) _ _ _); (refine call_translate (by decide) (by (first | assumption | omega | (simp only [byteArr_size]; omega))) ?_); intro t' k')
      | with_reducible (k_here; (with_reducible show wpAny _ _ (call (Value.builtin "bytes.upper") [Value.bytes _ _]) _ _ _); (refine call_upper (by (first | assumption | omega | (simp only [Array.size_map, List.size_toArray, hexOf_length, Array.length_toList]; omega))) ?_); intro t' k')
      | with_reducible (k_here; (with_reducible show wpAny _ _ (call (Value.builtin "bytes.hex") [Value.bytes _ _]) _ _ _); (refine call_hex (by (first | assumption | omega)) ?_); intro t' k')
      | with_reducible (k_here; first | (with_reducible refine meth_hex ?_) | (with_reducible refine meth_upper ?_) | (with_reducible refine meth_translate ?_))
      | with_reducible (k_here; (with_reducible show wpAny _ _ (call (Value.type "bytes") [Value.ref _]) _ _ _); k_dflt (refine' bytes_push ?kbaFx6 ?kbaNx6 ?kbahx6 ?kbalx6 ?kbaix6 ?kbarx6 ?kbanx6 ?_; (case kbaFx6 | kbaNx6 => k_asm); (case kbahx6 => rfl); (case kbalx6 => k_mem); (case kbaix6 => ((repeat apply ia_push); exact ia_nil)); (case kbarx6 => ((repeat (refine' in_push ?_ ?kax6 ?kbx6; (case kax6 | kbx6 => first | with_reducible assumption | decide))); exact in_nil)); (case kbanx6 => exact Nat.le_of_ble_eq_true rfl)); intro h' t' k' F' N')
      | with_reducible ((with_reducible show wpAny _ _ (storeName _ _ _) _ _ _); k_here; k_dflt (first | (refine' storeI ?Fx5 ?Nx5 ?_ ?ax5 ?bx5; (case Fx5 | Nx5 => k_asm); (case ax5 | bx5 => rfl); k_whole; intro h' t' tk' F' N'; (try k_sweep); (try dsimp only)) | (refine' storeS ?Fx5 ?Nx5 ?_ ?ax5 ?bx5; (case Fx5 | Nx5 => k_asm); (case ax5 | bx5 => rfl); k_whole; intro h' t' tk' F' N'; (try k_sweep); (try dsimp only)) | (refine' storeB ?Fx5 ?Nx5 ?_ ?ax5 ?bx5; (case Fx5 | Nx5 => k_asm); (case ax5 | bx5 => rfl); k_whole; intro h' t' tk' F' N'; (try k_sweep); (try dsimp only))))
      | with_reducible ((with_reducible show wpAny _ _ (binaryOp Operator.LShift (Value.int _ _) (Value.int _ _)) _ _ _); k_here; (with_reducible refine' lshift_int_small ?kb1x4 ?kb2x4 ?kb3x4 ?_); (case kb1x4 | kb2x4 => decide); (case kb3x4 => ((try simp only [bitAnd_m16, bitAnd_m2, bitAnd_m4]); omega)))
      | with_reducible (k_here; (with_reducible show wpAny _ _ (subscriptTail _ _ (Value.bytes _ _) (Value.int _ _)) _ _ _); (with_unfolding_all refine' b64_item ?k1x3 ?k2x3 ?_ ?k4x3 ?k5x3; (case k1x3 | k2x3 => ((try simp only [bitAnd_m2, bitAnd_m4, bitAnd_m6, show Int.toNat 4 = 4 from rfl, show Int.toNat 2 = 2 from rfl]); omega)); (case k4x3 => with_unfolding_all rfl); (case k5x3 => (intro _; with_unfolding_all rfl)); k_whole); intro t' k' lo' hi')
      | with_reducible ((with_reducible show wpAny _ _ (pyIter (Value.bytes _ _)) _ _ _); (with_reducible show wpAny _ _ (pyIter (Value.bytes _ _)) (fun it s₂ => LoopAtV _ _ _ _ _ _ _ _ _ it s₂) _ _); k_here; k_bytesUnr)
      | with_reducible (k_here; (with_reducible show wpAny _ _ (call (Value.type "type") [Value.bytes _ _]) _ _ _); refine call_type_of (typeIs_bytes _ _ _) (by decide) ?_)
      | with_reducible (k_here; (with_reducible refine floordiv_int (p256_ne ?kbex0) ?_ (Or.inl (PyProof.noPylong_small (p256_small ?kbpx0)))); (case kbex0 | kbpx0 => omega))
      | walk1
      | (dsimp only)
      | (leave1; walk_say "STEP leave1"; try dsimp only)
      | fail "no step"))
  all_goals exact ret _ _ _ (Fr.keep (by assumption)) ⟨_, rfl⟩
/-- what b16encode writes -/
def hexB (o : List Int) : Array UInt8 := ((((hexOf (byteArr o).toList).toArray).map Nat.toUInt8).toList.map Builtin.Bytes.toUpper).toArray
theorem sp_b16 (w : World) (o : List Int) (t : Tok) (hl : (byteArr o).size ≤ 3) : Spec w 5 81 [.bytes (byteArr o) t] [] (fun _ => True) (fun _ _ r => ∃ t', r = .bytes (hexB o) t') := by
  intro mean mg mb dp un gd base outer s Q E B X T hd hu hp ret
  k_dflt (refine' enter (binds := [(Str.ofString "s", .bytes (byteArr o) t)]) X T ?ho ?hcd ?hroom ?hbind ?hloc ?_ ?c2 ?c3 ?c4 ?c5)
  case ho => k_is
  case hcd => k_is
  case hroom => exact Nat.lt_of_le_of_lt (Nat.le_add_right _ _) hd
  case hbind => exact BindsTo.of_eq rfl
  case hloc => exact locs rfl
  case c2 => rfl
  case c3 => rfl
  case c4 => rfl
  case c5 => decide
  intro L h₁ F N
  (try dsimp only)
  (try k_fold)
  w_strict (repeat' (first
      | (k_unfold; (try dsimp only))
      | (k_end; wrow_close)
      | with_reducible ((with_reducible show wpAny _ _ (call (Value.ref _) _ _) _ _ _); k_here; k_dflt (refine' useA (sp_hex _ _ _ (by assumption)) ?_; intro r' h' tk' F' N' K' P'; obtain ⟨t9, e9⟩ := P'; subst e9; (try k_sweep); (try dsimp only); (try k_fold)))
      | with_reducible ((with_reducible show wpAny _ _ (call (Value.ref _) _ _) _ _ _); k_here; k_dflt (refine' useA (sp_b64 _ _ _ (by assumption) (by assumption)) ?_; intro r' h' tk' F' N' K' P'; obtain ⟨t9, e9⟩ := P'; subst e9; (try k_sweep); (try dsimp only); (try k_fold)))
      | with_reducible ((with_reducible show wpAny _ _ (call (Value.ref _) _ _) _ _ _); k_here; k_dflt (refine' useA (sp_b2a _ _ _ (by assumption) (by assumption)) ?_; intro r' h' tk' F' N' K' P'; obtain ⟨t9, e9⟩ := P'; subst e9; (try k_sweep); (try dsimp only); (try k_fold)))
      | with_reducible ((with_reducible show wpAny _ _ (call (Value.ref _) _ _) _ _ _); k_here; k_dflt (refine' useA (sp_buffer _ _ _) ?_; intro r' h' tk' F' N' K' P'; subst P'; (try k_sweep); (try dsimp only); (try k_fold)))
      | with_reducible (k_here; (with_reducible refine meth_encode ?_))
      | with_reducible (k_here; (with_reducible show wpAny _ _ (call (Value.builtin "str.encode") [Value.str _ _, Value.str _ _]) _ _ _); (refine call_encode (by (first | assumption | exact hexOf_low _)) (by (first | assumption | omega | (simp only [List.size_toArray, hexOf_length, Array.length_toList]; omega))) ?_); intro t' k')
      | with_reducible (k_here; (with_reducible show wpAny _ _ (call (Value.builtin "bytes.translate") [Value.bytes _ _, Value.bytes _ _]) _ _ _); (refine call_translate (by decide) (by (first | assumption | omega | (simp only [byteArr_size]; omega))) ?_); intro t' k')
      | with_reducible (k_here; (with_reducible show wpAny _ _ (call (Value.builtin "bytes.upper") [Value.bytes _ _]) _ _ _); (refine call_upper (by (first | assumption | omega | (simp only [Array.size_map, List.size_toArray, hexOf_length, Array.length_toList]; omega))) ?_); intro t' k')
      | with_reducible (k_here; (with_reducible show wpAny _ _ (call (Value.builtin "bytes.hex") [Value.bytes _ _]) _ _ _); (refine call_hex (by (first | assumption | omega)) ?_); intro t' k')
      | with_reducible (k_here; first | (with_reducible refine meth_hex ?_) | (with_reducible refine meth_upper ?_) | (with_reducible refine meth_translate ?_))
      | with_reducible (k_here; (with_reducible show wpAny _ _ (call (Value.type "bytes") [Value.ref _]) _ _ _); k_dflt (refine' bytes_push ?kbaFx6 ?kbaNx6 ?kbahx6 ?kbalx6 ?kbaix6 ?kbarx6 ?kbanx6 ?_; (case kbaFx6 | kbaNx6 => k_asm); (case kbahx6 => rfl); (case kbalx6 => k_mem); (case kbaix6 => ((repeat apply ia_push); exact ia_nil)); (case kbarx6 => ((repeat (refine' in_push ?_ ?kax6 ?kbx6; (case kax6 | kbx6 => first | with_reducible assumption | decide))); exact in_nil)); (case kbanx6 => exact Nat.le_of_ble_eq_true rfl)); intro h' t' k' F' N')
      | with_reducible ((with_reducible show wpAny _ _ (storeName _ _ _) _ _ _); k_here; k_dflt (first | (refine' storeI ?Fx5 ?Nx5 ?_ ?ax5 ?bx5; (case Fx5 | Nx5 => k_asm); (case ax5 | bx5 => rfl); k_whole; intro h' t' tk' F' N'; (try k_sweep); (try dsimp only)) | (refine' storeS ?Fx5 ?Nx5 ?_ ?ax5 ?bx5; (case Fx5 | Nx5 => k_asm); (case ax5 | bx5 => rfl); k_whole; intro h' t' tk' F' N'; (try k_sweep); (try dsimp only)) | (refine' storeB ?Fx5 ?Nx5 ?_ ?ax5 ?bx5; (case Fx5 | Nx5 => k_asm); (case ax5 | bx5 => rfl); k_whole; intro h' t' tk' F' N'; (try k_sweep); (try dsimp only))))
      | with_reducible ((with_reducible show wpAny _ _ (binaryOp Operator.LShift (Value.int _ _) (Value.int _ _)) _ _ _); k_here; (with_reducible refine' lshift_int_small ?kb1x4 ?kb2x4 ?kb3x4 ?_); (case kb1x4 | kb2x4 => decide); (case kb3x4 => ((try simp only [bitAnd_m16, bitAnd_m2, bitAnd_m4]); omega)))
      | with_reducible (k_here; (with_reducible show wpAny _ _ (subscriptTail _ _ (Value.bytes _ _) (Value.int _ _)) _ _ _); (with_unfolding_all refine' b64_item ?k1x3 ?k2x3 ?_ ?k4x3 ?k5x3; (case k1x3 | k2x3 => ((try simp only [bitAnd_m2, bitAnd_m4, bitAnd_m6, show Int.toNat 4 = 4 from rfl, show Int.toNat 2 = 2 from rfl]); omega)); (case k4x3 => with_unfolding_all rfl); (case k5x3 => (intro _; with_unfolding_all rfl)); k_whole); intro t' k' lo' hi')
      | with_reducible ((with_reducible show wpAny _ _ (pyIter (Value.bytes _ _)) _ _ _); (with_reducible show wpAny _ _ (pyIter (Value.bytes _ _)) (fun it s₂ => LoopAtV _ _ _ _ _ _ _ _ _ it s₂) _ _); k_here; k_bytesUnr)
      | with_reducible (k_here; (with_reducible show wpAny _ _ (call (Value.type "type") [Value.bytes _ _]) _ _ _); refine call_type_of (typeIs_bytes _ _ _) (by decide) ?_)
      | with_reducible (k_here; (with_reducible refine floordiv_int (p256_ne ?kbex0) ?_ (Or.inl (PyProof.noPylong_small (p256_small ?kbpx0)))); (case kbex0 | kbpx0 => omega))
      | walk1
      | (dsimp only)
      | (leave1; walk_say "STEP leave1"; try dsimp only)
      | fail "no step"))
  all_goals exact ret _ _ _ (Fr.keep (by assumption)) ⟨_, rfl⟩
end Mine
end

section
open PySem PySem.W PyProof.Rows PySem.Calls
set_option maxRecDepth 100000
namespace Mine
/-- a text by its signs -/
def strOf (l : List Nat) : Str := ⟨l.toArray⟩
theorem strOf_len (l : List Nat) : (strOf l).length = l.length := by simp [strOf, PySem.Str.length]
section
variable {prog : Program} {w : World} {A : Around} {E : Value → Shared → Prop} {s : Shared} {t u : Tok}
theorem str_item {x : Str} {value slice : PySem.Expr} {i : Int} {ui : Tok} {Q : Value → Shared → Prop} (h0 : 0 ≤ i) (h1 : i < (x.cps.size : Int)) (hfit : x.cps.size ≤ 1000)
    (h : ∀ t' k, Q (.str (strOf [x.cps.getD i.toNat 0]) t') { s with toks := k })
    (hs : subscripted slice false (.str x t) (.int i ui) = operate [.str x t, .int i ui] (getItem (.str x t) (.int i ui)))
    (ht : ∀ r, letTemporaryGo value (.str x t) r = pure ()) : wpAny (model prog w) A (subscriptTail value slice (.str x t) (.int i ui)) Q E s := by
  refine tail_of_ItemOn ⟨"str", _, F.slot_str_getitem.lookup, typeIs_str _ _ _, PyProof.Rows.getItem_str (c := x.cps.getD i.toNat 0) ?_ ?_ (h _ _)⟩ hs ht
  · simp only [Bool.or_eq_false_iff, decide_eq_false_iff_not]; omega
  · have hl : i.toNat < x.cps.size := by omega
    have : seqIndex? i x.length = some i.toNat := by
      have hn : ¬ i < 0 := by omega
      have h1' : i < (x.length : Int) := h1
      simp [seqIndex?, hn, h0, h1']
    rw [this]; simp [hl]
theorem bytes_item {b : Array UInt8} {ks : List Int} {value slice : PySem.Expr} {i : Nat} {ui : Tok} {Q : Value → Shared → Prop} (hk : KBw.bInts b = ks) (hf : ks.length ≤ 3) (h1 : (i : Int) < (ks.length : Int))
    (h : ∀ t' k, Q (.int (ks.getD i 0) t') { s with toks := k })
    (hs : subscripted slice false (.bytes b t) (.int (i : Int) ui) = operate [.bytes b t, .int (i : Int) ui] (getItem (.bytes b t) (.int (i : Int) ui)))
    (ht : ∀ r, letTemporaryGo value (.bytes b t) r = pure ()) : wpAny (model prog w) A (subscriptTail value slice (.bytes b t) (.int (i : Int) ui)) Q E s :=
  KBw.item_K hk (by omega) (by omega) h1 (fun t' k _ _ => h t' k) hs ht
theorem cat0 {c : Nat} {Q : Value → Shared → Prop} (h : ∀ t' k, Q (.str (strOf [c]) t') { s with toks := k }) : wpAny (model prog w) A (binaryOp .Add (.str (strOf [c]) t) (.str (Str.ofString "") u)) Q E s := by
  refine PyProof.Rows.add_str (fun t' k => ?_) (by rw [strOf_len, sizeLine_eq, show (Str.ofString "").length = 0 from by decide]; simp)
  have e : strOf [c] ++ Str.ofString "" = strOf [c] := by apply PySem.Str.ext'; simp [strOf, PySem.Str.cps_append, show (Str.ofString "").cps = #[] from by decide]
  rw [e]; exact h t' k
theorem cat1 {c : Nat} {l : List Nat} {Q : Value → Shared → Prop} (hl : l.length ≤ 1000) (h : ∀ t' k, Q (.str (strOf (c :: l)) t') { s with toks := k }) : wpAny (model prog w) A (binaryOp .Add (.str (strOf [c]) t) (.str (strOf l) u)) Q E s := by
  refine PyProof.Rows.add_str (fun t' k => ?_) (by rw [strOf_len, strOf_len, sizeLine_eq]; simp only [List.length_cons, List.length_nil]; omega)
  have e : strOf [c] ++ strOf l = strOf (c :: l) := by apply PySem.Str.ext'; simp [strOf, PySem.Str.cps_append]
  rw [e]; exact h t' k
theorem catE {l : List Nat} {Q : Value → Shared → Prop} (hl : l.length ≤ 1000) (h : ∀ t' k, Q (.str (strOf (l ++ [61])) t') { s with toks := k }) : wpAny (model prog w) A (binaryOp .Add (.str (strOf l) t) (.str (Str.ofString "=") u)) Q E s := by
  refine PyProof.Rows.add_str (fun t' k => ?_) (by rw [strOf_len, sizeLine_eq, show (Str.ofString "=").length = 1 from by decide]; omega)
  have e : strOf l ++ Str.ofString "=" = strOf (l ++ [61]) := by apply PySem.Str.ext'; simp [strOf, PySem.Str.cps_append, show (Str.ofString "=").cps = #[61] from by decide]
  rw [e]; exact h t' k
theorem len_s {l : List Nat} {z : Int} {Q : Value → Shared → Prop} (hz : (l.length : Int) = z) (hf : l.length ≤ 1000) (h : ∀ t' k, Q (.int z t') { s with toks := k }) : wpAny (model prog w) A (call (.builtin "len") [.str (strOf l) t]) Q E s := by
  refine PyProof.Rows.len_str (by rw [strOf_len]; omega) ?_
  rw [strOf_len, hz]; exact h _ _
theorem len_b {b : Array UInt8} {ks : List Int} {z : Int} {Q : Value → Shared → Prop} (hk : KBw.bInts b = ks) (hz : (ks.length : Int) = z) (hf : ks.length ≤ 1000) (h : ∀ t' k, Q (.int z t') { s with toks := k }) : wpAny (model prog w) A (call (.builtin "len") [.bytes b t]) Q E s := by
  refine KBw.len_K hk (by omega) ?_
  rw [hz]; exact h _ _
end
section
variable {M : Model} {A : Around} {E : Value → Shared → Prop} {s : Shared} {cn : Str} {cs : Scope} {L a : Addr} {ccd : Value} {cl : List (Str × Addr)} {h₀ : Heap} {m : Str → Option Value} {news : List (Addr × Obj)} {x : Str} {Q : Unit → Shared → Prop}
theorem storeZ {e z : Int} {tok : Tok} (hz : e = z) (F : Fr h₀ L s.heap m) (N : News h₀ L s.heap news)
    (h : ∀ h' t tk, Fr h₀ L h' (fun y => if y = x then some (.int z t) else m y) → News h₀ L h' news → Q () { s with heap := h', toks := tk })
    (hk : cs.kind = .function) (hl : (envX cn cs L a ccd cl).kindOf x = some .local) : wpAny M A (storeName (envX cn cs L a ccd cl) x (.int e tok)) Q E s := by
  subst hz
  exact storeI F N h hk hl
end
end Mine
end

section
open PySem PySem.W PyProof.Rows PySem.Calls
set_option maxRecDepth 100000
namespace Mine
section
variable {prog : Program} {w : World} {A : Around} {E : Value → Shared → Prop} {s : Shared} {env : Env} {h₀ : Heap} {x : Str} {body : List Stmt} {Q : Flow → Shared → Prop}
/-- a turn's end where the made objects stay: two names turn, as their letters say -/
def Two {σ : Type} (V V' : σ → Tok → Value) (x y y' : Str) (m₀ : Str → Option Value) (news : List (Addr × Obj)) (a : σ) (m : Str → Option Value) (nx : List (Addr × Obj)) : Prop :=
  nx = news ∧ (∃ t, m y = some (V a t)) ∧ (∃ t, m y' = some (V' a t)) ∧ ∀ z, z ≠ x → z ≠ y → z ≠ y' → m z = m₀ z
def One {σ : Type} (V : σ → Tok → Value) (x y : Str) (m₀ : Str → Option Value) (news : List (Addr × Obj)) (a : σ) (m : Str → Option Value) (nx : List (Addr × Obj)) : Prop :=
  nx = news ∧ (∃ t, m y = some (V a t)) ∧ ∀ z, z ≠ x → z ≠ y → m z = m₀ z
theorem iter_range2 {σ : Type} (V V' : σ → Tok → Value) (st : Nat → σ) {r : Addr} {a₀ b₀ : Int} {t₀ u₀ v₀ : Tok} {n : Nat} {m₀ : Str → Option Value} {news : List (Addr × Obj)} {y y' : Str} {tc td : Tok}
    (hh : A.handled = none) (hr : IsRange s.heap r a₀ b₀ 1 t₀ u₀ v₀) (hsmall : Builtin.Range.small a₀ b₀ 1 = true) (hn : Builtin.Range.rangeSize a₀ b₀ 1 = (n : Int)) (F : Fr h₀ env.locals s.heap m₀) (N : News h₀ env.locals s.heap news) (hy : m₀ y = some (V (st 0) tc)) (hy' : m₀ y' = some (V' (st 0) td))
    (turn : ∀ (i : Nat) t ta tb h tk own, i < n → OwnOff own (news.map (·.1)) → Fr h₀ env.locals h (fun z => if z = x then some (.int (a₀ + (i : Int)) t) else if z = y then some (V (st i) ta) else if z = y' then some (V' (st i) tb) else m₀ z) → News h₀ env.locals h (news ++ own) →
      wpAny (model prog w) A (execs body env) (InvPostN h₀ env.locals (Two V V' x y y' m₀ news (st (i + 1))) own (news.map (·.1)) { s with heap := h, toks := tk } Q) E { s with heap := h, toks := tk })
    (done : ∀ (u : Str → Option Value) t t' h tk, Fr h₀ env.locals h (fun z => if z = x then u z else if z = y then some (V (st n) t) else if z = y' then some (V' (st n) t') else m₀ z) → News h₀ env.locals h news → Q .next { s with heap := h, toks := tk }) :
    wpAny (model prog w) A (pyIter (.ref r)) (fun it s₂ => LoopAtV prog w A h₀ env x body Q E it s₂) E s := by
  refine wpAny_pyIter_range hr hsmall ?_
  have W : Walks prog w A s.heap.objs.size [s.heap.objs.size] [s.heap.objs.size] n (fun i v => i < n ∧ ∃ t, v = .int (a₀ + i * 1) t)
      (fun i h => IsRangeIter h s.heap.objs.size (a₀ + (i : Nat) * 1) ((n : Int) - (i : Nat)) 1) := (Walks.range hh _ a₀ 1 n).bound
  refine loop_invN (fun i m nx => Two V V' x y y' m₀ news (st i) m nx) W ?_ ?_ ?_ ?_ (by show IsRangeIter _ _ _ _ _; rw [hn]; simpa using Heap.get?_push_size _ rfl) (F.push _) (fun p hp => ⟨Heap.get?_push_of_some _ (N p hp).1, (N p hp).2⟩) ⟨rfl, ⟨tc, hy⟩, ⟨td, hy'⟩, fun _ _ _ _ => rfl⟩ ?_ ?_
  · intro hm
    exact absurd F.ns.lt ((List.mem_singleton.mp hm) ▸ Nat.lt_irrefl _)
  · intro b' hb
    rw [List.mem_singleton.mp hb]
    exact next_is_new F
  · intro p hp hI
    exact absurd (Heap.lt_size (N p hp).1) ((List.mem_singleton.mp hI) ▸ Nat.lt_irrefl _)
  · intro p hp hI
    exact absurd (Heap.lt_size (N p hp).1) ((List.mem_singleton.mp hI) ▸ Nat.lt_irrefl _)
  · rintro i v m₁ nx h tk own hi ⟨_, t, rfl⟩ _ hoff ⟨rfl, ⟨ta, ha⟩, ⟨tb, hb⟩, hm⟩ F₁ N₁
    rw [map_two ha hb hm, Int.mul_one] at F₁
    exact turn i t ta tb h tk own hi hoff F₁ N₁
  · rintro m₁ nx h tk ⟨rfl, ⟨t, ha⟩, ⟨t', hb⟩, hm⟩ F₁ N₁
    refine done m₁ t t' h tk ?_ N₁
    rw [done_two ha hb hm]; exact F₁
theorem iter_range1 {σ : Type} (V : σ → Tok → Value) (st : Nat → σ) {r : Addr} {a₀ b₀ : Int} {t₀ u₀ v₀ : Tok} {n : Nat} {m₀ : Str → Option Value} {news : List (Addr × Obj)} {y : Str} {tc : Tok}
    (hh : A.handled = none) (hr : IsRange s.heap r a₀ b₀ 1 t₀ u₀ v₀) (hsmall : Builtin.Range.small a₀ b₀ 1 = true) (hn : Builtin.Range.rangeSize a₀ b₀ 1 = (n : Int)) (F : Fr h₀ env.locals s.heap m₀) (N : News h₀ env.locals s.heap news) (hy : m₀ y = some (V (st 0) tc))
    (turn : ∀ (i : Nat) t ta h tk own, i < n → OwnOff own (news.map (·.1)) → Fr h₀ env.locals h (fun z => if z = x then some (.int (a₀ + (i : Int)) t) else if z = y then some (V (st i) ta) else m₀ z) → News h₀ env.locals h (news ++ own) →
      wpAny (model prog w) A (execs body env) (InvPostN h₀ env.locals (One V x y m₀ news (st (i + 1))) own (news.map (·.1)) { s with heap := h, toks := tk } Q) E { s with heap := h, toks := tk })
    (done : ∀ (u : Str → Option Value) t h tk, Fr h₀ env.locals h (fun z => if z = x then u z else if z = y then some (V (st n) t) else m₀ z) → News h₀ env.locals h news → Q .next { s with heap := h, toks := tk }) :
    wpAny (model prog w) A (pyIter (.ref r)) (fun it s₂ => LoopAtV prog w A h₀ env x body Q E it s₂) E s := by
  refine wpAny_pyIter_range hr hsmall ?_
  have W : Walks prog w A s.heap.objs.size [s.heap.objs.size] [s.heap.objs.size] n (fun i v => i < n ∧ ∃ t, v = .int (a₀ + i * 1) t)
      (fun i h => IsRangeIter h s.heap.objs.size (a₀ + (i : Nat) * 1) ((n : Int) - (i : Nat)) 1) := (Walks.range hh _ a₀ 1 n).bound
  refine loop_invN (fun i m nx => One V x y m₀ news (st i) m nx) W ?_ ?_ ?_ ?_ (by show IsRangeIter _ _ _ _ _; rw [hn]; simpa using Heap.get?_push_size _ rfl) (F.push _) (fun p hp => ⟨Heap.get?_push_of_some _ (N p hp).1, (N p hp).2⟩) ⟨rfl, ⟨tc, hy⟩, fun _ _ _ => rfl⟩ ?_ ?_
  · intro hm
    exact absurd F.ns.lt ((List.mem_singleton.mp hm) ▸ Nat.lt_irrefl _)
  · intro b' hb
    rw [List.mem_singleton.mp hb]
    exact next_is_new F
  · intro p hp hI
    exact absurd (Heap.lt_size (N p hp).1) ((List.mem_singleton.mp hI) ▸ Nat.lt_irrefl _)
  · intro p hp hI
    exact absurd (Heap.lt_size (N p hp).1) ((List.mem_singleton.mp hI) ▸ Nat.lt_irrefl _)
  · rintro i v m₁ nx h tk own hi ⟨_, t, rfl⟩ _ hoff ⟨rfl, ⟨ta, ha⟩, hm⟩ F₁ N₁
    rw [map_one ha hm, Int.mul_one] at F₁
    exact turn i t ta h tk own hi hoff F₁ N₁
  · rintro m₁ nx h tk ⟨rfl, ⟨t, ha⟩, hm⟩ F₁ N₁
    refine done m₁ t h tk ?_ N₁
    rw [done_one ha hm]; exact F₁
theorem iter_str1 {σ : Type} (V : σ → Tok → Value) (st : Nat → σ) {xt : Str} {tx : Tok} {m₀ : Str → Option Value} {news : List (Addr × Obj)} {y : Str} {tc : Tok}
    (hh : A.handled = none) (F : Fr h₀ env.locals s.heap m₀) (N : News h₀ env.locals s.heap news) (hy : m₀ y = some (V (st 0) tc))
    (turn : ∀ (i : Nat) c t ta h tk own, xt.cps[i]? = some c → OwnOff own (news.map (·.1)) → Fr h₀ env.locals h (fun z => if z = x then some (.str (strOf [c]) t) else if z = y then some (V (st i) ta) else m₀ z) → News h₀ env.locals h (news ++ own) →
      wpAny (model prog w) A (execs body env) (InvPostN h₀ env.locals (One V x y m₀ news (st (i + 1))) own (news.map (·.1)) { s with heap := h, toks := tk } Q) E { s with heap := h, toks := tk })
    (done : ∀ (u : Str → Option Value) t h tk, Fr h₀ env.locals h (fun z => if z = x then u z else if z = y then some (V (st xt.cps.size) t) else m₀ z) → News h₀ env.locals h news → Q .next { s with heap := h, toks := tk }) :
    wpAny (model prog w) A (pyIter (.str xt tx)) (fun it s₂ => LoopAtV prog w A h₀ env x body Q E it s₂) E s := by
  refine wpAny_pyIter_str fun o St hW hst => ?_
  have W := hW A hh
  refine loop_invN (fun i m nx => One V x y m₀ news (st i) m nx) W ?_ ?_ ?_ ?_ hst (F.push _) (fun p hp => ⟨Heap.get?_push_of_some _ (N p hp).1, (N p hp).2⟩) ⟨rfl, ⟨tc, hy⟩, fun _ _ _ => rfl⟩ ?_ ?_
  · intro hm
    exact absurd F.ns.lt ((List.mem_singleton.mp hm) ▸ Nat.lt_irrefl _)
  · intro b' hb
    rw [List.mem_singleton.mp hb]
    exact next_is_new F
  · intro p hp hI
    exact absurd (Heap.lt_size (N p hp).1) ((List.mem_singleton.mp hI) ▸ Nat.lt_irrefl _)
  · intro p hp hI
    exact absurd (Heap.lt_size (N p hp).1) ((List.mem_singleton.mp hI) ▸ Nat.lt_irrefl _)
  · rintro i v m₁ nx h tk own hi ⟨c, u, hc, rfl⟩ _ hoff ⟨rfl, ⟨ta, ha⟩, hm⟩ F₁ N₁
    rw [map_one ha hm] at F₁
    exact turn i c u ta h tk own hc hoff F₁ N₁
  · rintro m₁ nx h tk ⟨rfl, ⟨t, ha⟩, hm⟩ F₁ N₁
    refine done m₁ t h tk ?_ N₁
    rw [done_one ha hm]; exact F₁
theorem iter_bytes1 {σ : Type} (V : σ → Tok → Value) (st : Nat → σ) {b : Array UInt8} {tx : Tok} {ks : List Int} {m₀ : Str → Option Value} {news : List (Addr × Obj)} {y : Str} {tc : Tok} (hk : KBw.bInts b = ks)
    (hh : A.handled = none) (F : Fr h₀ env.locals s.heap m₀) (N : News h₀ env.locals s.heap news) (hy : m₀ y = some (V (st 0) tc))
    (turn : ∀ (i : Nat) (k : Int) t ta h tk own, ks[i]? = some k → 0 ≤ k → k < 256 → OwnOff own (news.map (·.1)) → Fr h₀ env.locals h (fun z => if z = x then some (.int k t) else if z = y then some (V (st i) ta) else m₀ z) → News h₀ env.locals h (news ++ own) →
      wpAny (model prog w) A (execs body env) (InvPostN h₀ env.locals (One V x y m₀ news (st (i + 1))) own (news.map (·.1)) { s with heap := h, toks := tk } Q) E { s with heap := h, toks := tk })
    (done : ∀ (u : Str → Option Value) t h tk, Fr h₀ env.locals h (fun z => if z = x then u z else if z = y then some (V (st ks.length) t) else m₀ z) → News h₀ env.locals h news → Q .next { s with heap := h, toks := tk }) :
    wpAny (model prog w) A (pyIter (.bytes b tx)) (fun it s₂ => LoopAtV prog w A h₀ env x body Q E it s₂) E s := by
  subst hk
  refine KBw.pyIter_bytes ?_
  have W := KBw.walks (prog := prog) (w := w) hh s.heap.objs.size b tx
  refine loop_invN (fun i m nx => One V x y m₀ news (st i) m nx) W ?_ ?_ ?_ ?_ ⟨_, Heap.get?_push_size _ rfl, rfl, rfl⟩ (F.push _) (fun p hp => ⟨Heap.get?_push_of_some _ (N p hp).1, (N p hp).2⟩) ⟨rfl, ⟨tc, hy⟩, fun _ _ _ => rfl⟩ ?_ ?_
  · intro hm
    exact absurd F.ns.lt ((List.mem_singleton.mp hm) ▸ Nat.lt_irrefl _)
  · intro b' hb
    rw [List.mem_singleton.mp hb]
    exact next_is_new F
  · intro p hp hI
    exact absurd (Heap.lt_size (N p hp).1) ((List.mem_singleton.mp hI) ▸ Nat.lt_irrefl _)
  · intro p hp hI
    exact absurd (Heap.lt_size (N p hp).1) ((List.mem_singleton.mp hI) ▸ Nat.lt_irrefl _)
  · rintro i v m₁ nx h tk own hi ⟨c, u, hc, rfl⟩ _ hoff ⟨rfl, ⟨ta, ha⟩, hm⟩ F₁ N₁
    rw [map_one ha hm] at F₁
    have := c.toNat_lt
    exact turn i _ u ta h tk own (KBw.ints_get hc) (by omega) (by omega) hoff F₁ N₁
  · rintro m₁ nx h tk ⟨rfl, ⟨t, ha⟩, hm⟩ F₁ N₁
    rw [← KBw.ints_length] at ha
    refine done m₁ t h tk ?_ N₁
    rw [done_one ha hm]; exact F₁
/-- a turn's end -/
theorem two_end {σ : Type} {V V' : σ → Tok → Value} {y y' : Str} {m₀ m' : Str → Option Value} {L : Addr} {news own news' : List (Addr × Obj)} {a : σ} {s₁ : Shared} {h' : Heap} {tk : Nat}
    (F : Fr h₀ L h' m') (N : News h₀ L h' news') (hs : ∀ p ∈ news ++ own, p ∈ news') (hy : ∃ t, m' y = some (V a t)) (hy' : ∃ t, m' y' = some (V' a t)) (hm : ∀ z, z ≠ x → z ≠ y → z ≠ y' → m' z = m₀ z) :
    InvEndN h₀ L (Two V V' x y y' m₀ news a) own (news.map (·.1)) s₁ { s₁ with heap := h', toks := tk } :=
  ⟨h', tk, m', news', news, rfl, F, N, fun p hp => hs p (List.mem_append_left _ hp), fun p hp => hs p (List.mem_append_right _ hp), rfl, rfl, hy, hy', hm⟩
theorem one_end {σ : Type} {V : σ → Tok → Value} {y : Str} {m₀ m' : Str → Option Value} {L : Addr} {news own news' : List (Addr × Obj)} {a : σ} {s₁ : Shared} {h' : Heap} {tk : Nat}
    (F : Fr h₀ L h' m') (N : News h₀ L h' news') (hs : ∀ p ∈ news ++ own, p ∈ news') (hy : ∃ t, m' y = some (V a t)) (hm : ∀ z, z ≠ x → z ≠ y → m' z = m₀ z) :
    InvEndN h₀ L (One V x y m₀ news a) own (news.map (·.1)) s₁ { s₁ with heap := h', toks := tk } :=
  ⟨h', tk, m', news', news, rfl, F, N, fun p hp => hs p (List.mem_append_left _ hp), fun p hp => hs p (List.mem_append_right _ hp), rfl, rfl, hy, hm⟩
end
/-- which letter a loop turns, and how -/
inductive Mark {σ : Type} (V : σ → Tok → Value) (st : Nat → σ) (y : Str) : Prop where | intro
inductive Mark2 {σ : Type} (V V' : σ → Tok → Value) (st : Nat → σ) (y y' : Str) : Prop where | intro
section
variable {prog : Program} {w : World} {A : Around} {E : Value → Shared → Prop} {s : Shared} {env : Env} {h₀ : Heap} {x : Str} {body : List Stmt} {Q : Flow → Shared → Prop}
theorem iter_str1M {σ : Type} {V : σ → Tok → Value} {st : Nat → σ} {xt : Str} {tx : Tok} {m₀ : Str → Option Value} {news : List (Addr × Obj)} {y : Str} {tc : Tok} (_mk : Mark V st y)
    (hh : A.handled = none) (F : Fr h₀ env.locals s.heap m₀) (N : News h₀ env.locals s.heap news) (hy : m₀ y = some (V (st 0) tc))
    (turn : ∀ (i : Nat) c t ta h tk own, xt.cps[i]? = some c → OwnOff own (news.map (·.1)) → Fr h₀ env.locals h (fun z => if z = x then some (.str (strOf [c]) t) else if z = y then some (V (st i) ta) else m₀ z) → News h₀ env.locals h (news ++ own) →
      wpAny (model prog w) A (execs body env) (InvPostN h₀ env.locals (One V x y m₀ news (st (i + 1))) own (news.map (·.1)) { s with heap := h, toks := tk } Q) E { s with heap := h, toks := tk })
    (done : ∀ (u : Str → Option Value) t h tk, Fr h₀ env.locals h (fun z => if z = x then u z else if z = y then some (V (st xt.cps.size) t) else m₀ z) → News h₀ env.locals h news → Q .next { s with heap := h, toks := tk }) :
    wpAny (model prog w) A (pyIter (.str xt tx)) (fun it s₂ => LoopAtV prog w A h₀ env x body Q E it s₂) E s := iter_str1 V st hh F N hy turn done
theorem iter_bytes1M {σ : Type} {V : σ → Tok → Value} {st : Nat → σ} {b : Array UInt8} {tx : Tok} {ks : List Int} {m₀ : Str → Option Value} {news : List (Addr × Obj)} {y : Str} {tc : Tok} (_mk : Mark V st y) (hk : KBw.bInts b = ks)
    (hh : A.handled = none) (F : Fr h₀ env.locals s.heap m₀) (N : News h₀ env.locals s.heap news) (hy : m₀ y = some (V (st 0) tc))
    (turn : ∀ (i : Nat) (k : Int) t ta h tk own, ks[i]? = some k → 0 ≤ k → k < 256 → OwnOff own (news.map (·.1)) → Fr h₀ env.locals h (fun z => if z = x then some (.int k t) else if z = y then some (V (st i) ta) else m₀ z) → News h₀ env.locals h (news ++ own) →
      wpAny (model prog w) A (execs body env) (InvPostN h₀ env.locals (One V x y m₀ news (st (i + 1))) own (news.map (·.1)) { s with heap := h, toks := tk } Q) E { s with heap := h, toks := tk })
    (done : ∀ (u : Str → Option Value) t h tk, Fr h₀ env.locals h (fun z => if z = x then u z else if z = y then some (V (st ks.length) t) else m₀ z) → News h₀ env.locals h news → Q .next { s with heap := h, toks := tk }) :
    wpAny (model prog w) A (pyIter (.bytes b tx)) (fun it s₂ => LoopAtV prog w A h₀ env x body Q E it s₂) E s := iter_bytes1 V st hk hh F N hy turn done
theorem iter_range1M {σ : Type} {V : σ → Tok → Value} {st : Nat → σ} {r : Addr} {b₀ : Int} {t₀ u₀ v₀ : Tok} {n : Nat} {m₀ : Str → Option Value} {news : List (Addr × Obj)} {y : Str} {tc : Tok} (_mk : Mark V st y)
    (hh : A.handled = none) (hr : IsRange s.heap r 0 b₀ 1 t₀ u₀ v₀) (hsmall : Builtin.Range.small 0 b₀ 1 = true) (hn : Builtin.Range.rangeSize 0 b₀ 1 = (n : Int)) (F : Fr h₀ env.locals s.heap m₀) (N : News h₀ env.locals s.heap news) (hy : m₀ y = some (V (st 0) tc))
    (turn : ∀ (i : Nat) t ta h tk own, i < n → OwnOff own (news.map (·.1)) → Fr h₀ env.locals h (fun z => if z = x then some (.int (i : Int) t) else if z = y then some (V (st i) ta) else m₀ z) → News h₀ env.locals h (news ++ own) →
      wpAny (model prog w) A (execs body env) (InvPostN h₀ env.locals (One V x y m₀ news (st (i + 1))) own (news.map (·.1)) { s with heap := h, toks := tk } Q) E { s with heap := h, toks := tk })
    (done : ∀ (u : Str → Option Value) t h tk, Fr h₀ env.locals h (fun z => if z = x then u z else if z = y then some (V (st n) t) else m₀ z) → News h₀ env.locals h news → Q .next { s with heap := h, toks := tk }) :
    wpAny (model prog w) A (pyIter (.ref r)) (fun it s₂ => LoopAtV prog w A h₀ env x body Q E it s₂) E s := iter_range1 V st hh hr hsmall hn F N hy (fun i t ta h tk own hi off F' N' => turn i t ta h tk own hi off (by simpa only [Int.zero_add] using F') N') done
theorem iter_range2M {σ : Type} {V V' : σ → Tok → Value} {st : Nat → σ} {r : Addr} {b₀ : Int} {t₀ u₀ v₀ : Tok} {n : Nat} {m₀ : Str → Option Value} {news : List (Addr × Obj)} {y y' : Str} {tc td : Tok} (_mk : Mark2 V V' st y y')
    (hh : A.handled = none) (hr : IsRange s.heap r 0 b₀ 1 t₀ u₀ v₀) (hsmall : Builtin.Range.small 0 b₀ 1 = true) (hn : Builtin.Range.rangeSize 0 b₀ 1 = (n : Int)) (F : Fr h₀ env.locals s.heap m₀) (N : News h₀ env.locals s.heap news) (hy : m₀ y = some (V (st 0) tc)) (hy' : m₀ y' = some (V' (st 0) td))
    (turn : ∀ (i : Nat) t ta tb h tk own, i < n → OwnOff own (news.map (·.1)) → Fr h₀ env.locals h (fun z => if z = x then some (.int (i : Int) t) else if z = y then some (V (st i) ta) else if z = y' then some (V' (st i) tb) else m₀ z) → News h₀ env.locals h (news ++ own) →
      wpAny (model prog w) A (execs body env) (InvPostN h₀ env.locals (Two V V' x y y' m₀ news (st (i + 1))) own (news.map (·.1)) { s with heap := h, toks := tk } Q) E { s with heap := h, toks := tk })
    (done : ∀ (u : Str → Option Value) t t' h tk, Fr h₀ env.locals h (fun z => if z = x then u z else if z = y then some (V (st n) t) else if z = y' then some (V' (st n) t') else m₀ z) → News h₀ env.locals h news → Q .next { s with heap := h, toks := tk }) :
    wpAny (model prog w) A (pyIter (.ref r)) (fun it s₂ => LoopAtV prog w A h₀ env x body Q E it s₂) E s := iter_range2 V V' st hh hr hsmall hn F N hy hy' (fun i t ta tb h tk own hi off F' N' => turn i t ta tb h tk own hi off (by simpa only [Int.zero_add] using F') N') done
end
end Mine
end

section
open PySem PySem.W PyProof.Rows PySem.Calls
set_option maxRecDepth 100000
set_option maxHeartbeats 8000000
set_option linter.unusedSimpArgs false
namespace Mine
/-- the head leaves its own lines switched on: off again -/
theorem offP3 : True := by w_top off; trivial
theorem fmod_p (x : Int) (n : Nat) : 0 ≤ x.fmod (2 ^ n) := (kbt_rest x n).1
theorem fmod_q (x : Int) (n : Nat) : x.fmod (2 ^ n) < 2 ^ n := (kbt_rest x n).2
theorem idx_hi {x : Int} {n N k : Nat} (h : N = k) (hk : (2 : Int) ^ n ≤ (k : Int)) : x.fmod (2 ^ n) < (N : Int) := by rw [h]; exact Int.lt_of_lt_of_le (fmod_q x n) hk
theorem size_le {N k : Nat} (h : N = k) (hk : k ≤ 1000) : N ≤ 1000 := by rw [h]; exact hk
def al (alph : Str) (i : Int) : Nat := alph.cps.getD i.toNat 0
theorem al_eq {alph : Str} {i j : Int} (h : i = j) : alph.cps.getD i.toNat 0 = al alph j := by rw [h]; rfl
theorem pz0 : (2 : Int) ^ Int.toNat 0 = 1 := by decide
theorem pz2 : (2 : Int) ^ Int.toNat 2 = 4 := by decide
theorem pz4 : (2 : Int) ^ Int.toNat 4 = 16 := by decide
theorem pz6 : (2 : Int) ^ Int.toNat 6 = 64 := by decide
theorem fd16 (x : Int) : x.fdiv 16 = x / 16 := Int.fdiv_eq_ediv_of_nonneg x (by decide)
theorem fd64 (x : Int) : x.fdiv 64 = x / 64 := Int.fdiv_eq_ediv_of_nonneg x (by decide)
theorem fm16 (x : Int) : x.fmod 16 = x % 16 := Int.fmod_eq_emod_of_nonneg x (by decide)
theorem fm64 (x : Int) : x.fmod 64 = x % 64 := Int.fmod_eq_emod_of_nonneg x (by decide)
theorem cons2 {a b : Nat} {l r : List Nat} (h : a = b) (h' : l = r) : a :: l = b :: r := by rw [h, h']
/-- the octets as one number -/
def vSt (ks : List Int) : Nat → Int
  | 0 => 0
  | i + 1 => vSt ks i * 256 + ks.getD i 0
/-- the signs so far, and what is left -/
def dv (B v : Int) : Nat → Int
  | 0 => v
  | i + 1 => (dv B v i).fdiv B
def ds (alph : Str) (B v : Int) : Nat → List Nat
  | 0 => []
  | i + 1 => alph.cps.getD ((dv B v i).fmod B).toNat 0 :: ds alph B v i
def sSt (alph : Str) (B v : Int) (i : Nat) : List Nat × Int := (ds alph B v i, dv B v i)
theorem ds_len (alph : Str) (B v : Int) : ∀ i, (ds alph B v i).length = i
  | 0 => rfl
  | i + 1 => by simp only [ds, List.length_cons, ds_len alph B v i]
theorem sSt_len (alph : Str) (B v : Int) (i : Nat) : (sSt alph B v i).1.length = i := ds_len alph B v i
theorem sSt_le {alph : Str} {B v : Int} {i n : Nat} (h : i < n) (hn : n ≤ 6) : (sSt alph B v i).1.length ≤ 1000 := by rw [sSt_len]; omega
theorem getK_of {l : List Int} {i : Nat} {c : Int} (h : l[i]? = some c) : c = l.getD i 0 := by rw [List.getD, h]; rfl
/-- octets, the bits that fill up, the number of signs: in sixes, in fours -/
inductive C6 : List Int → Int → Nat → Prop
  | c0 : C6 [] 0 0
  | c1 (a : Int) : C6 [a] 4 2
  | c2 (a b : Int) : C6 [a, b] 2 3
  | c3 (a b c : Int) : C6 [a, b, c] 0 4
inductive C4 : List Int → Int → Nat → Prop
  | c0 : C4 [] 0 0
  | c1 (a : Int) : C4 [a] 0 2
  | c2 (a b : Int) : C4 [a, b] 0 4
  | c3 (a b c : Int) : C4 [a, b, c] 0 6
theorem c6_of {ks : List Int} (h : ks.length ≤ 3) : ∃ sp n, C6 ks sp n := by
  match ks, h with
  | [], _ => exact ⟨_, _, .c0⟩
  | [a], _ => exact ⟨_, _, .c1 a⟩
  | [a, b], _ => exact ⟨_, _, .c2 a b⟩
  | [a, b, c], _ => exact ⟨_, _, .c3 a b c⟩
  | _ :: _ :: _ :: _ :: _, h => simp only [List.length_cons] at h; omega
theorem c4_of {ks : List Int} (h : ks.length ≤ 3) : ∃ sp n, C4 ks sp n := by
  match ks, h with
  | [], _ => exact ⟨_, _, .c0⟩
  | [a], _ => exact ⟨_, _, .c1 a⟩
  | [a, b], _ => exact ⟨_, _, .c2 a b⟩
  | [a, b, c], _ => exact ⟨_, _, .c3 a b c⟩
  | _ :: _ :: _ :: _ :: _, h => simp only [List.length_cons] at h; omega
theorem C6.sp {ks : List Int} {sp : Int} {n : Nat} (h : C6 ks sp n) : (6 - (8 * (ks.length : Int)).fmod 6).fmod 6 = sp := by cases h <;> simp only [List.length_cons, List.length_nil] <;> decide
theorem C4.sp {ks : List Int} {sp : Int} {n : Nat} (h : C4 ks sp n) : (4 - (8 * (ks.length : Int)).fmod 4).fmod 4 = sp := by cases h <;> simp only [List.length_cons, List.length_nil] <;> decide
theorem C6.size {ks : List Int} {sp : Int} {n : Nat} (h : C6 ks sp n) : Builtin.Range.rangeSize 0 ((8 * (ks.length : Int) + sp).fdiv 6) 1 = (n : Int) := by cases h <;> simp only [List.length_cons, List.length_nil] <;> decide
theorem C4.size {ks : List Int} {sp : Int} {n : Nat} (h : C4 ks sp n) : Builtin.Range.rangeSize 0 ((8 * (ks.length : Int) + sp).fdiv 4) 1 = (n : Int) := by cases h <;> simp only [List.length_cons, List.length_nil] <;> decide
theorem C6.small {ks : List Int} {sp : Int} {n : Nat} (h : C6 ks sp n) : Builtin.Range.small 0 ((8 * (ks.length : Int) + sp).fdiv 6) 1 = true := by cases h <;> simp only [List.length_cons, List.length_nil] <;> decide
theorem C4.small {ks : List Int} {sp : Int} {n : Nat} (h : C4 ks sp n) : Builtin.Range.small 0 ((8 * (ks.length : Int) + sp).fdiv 4) 1 = true := by cases h <;> simp only [List.length_cons, List.length_nil] <;> decide
theorem C6.lo {ks : List Int} {sp : Int} {n : Nat} (h : C6 ks sp n) : 0 ≤ sp ∧ sp ≤ 4 ∧ n ≤ 6 := by cases h <;> decide
theorem C4.lo {ks : List Int} {sp : Int} {n : Nat} (h : C4 ks sp n) : 0 ≤ sp ∧ sp ≤ 4 ∧ n ≤ 6 := by cases h <;> decide
theorem mul_pow {a sp : Int} (h4 : sp ≤ 4) : IntMulOk a (2 ^ sp.toNat) := by
  refine IntMulOk.of_right (intBits_le ?_)
  have : sp.toNat = 0 ∨ sp.toNat = 1 ∨ sp.toNat = 2 ∨ sp.toNat = 3 ∨ sp.toNat = 4 := by omega
  rcases this with e | e | e | e | e <;> rw [e] <;> decide
/-- what _law_signs writes in sixes, in fours -/
def sig6 (alph : Str) : List Int → List Nat
  | [a] => [al alph (a / 4), al alph (a % 4 * 16), 61, 61]
  | [a, b] => [al alph (a / 4), al alph (a % 4 * 16 + b / 16), al alph (b % 16 * 4), 61]
  | [a, b, c] => [al alph (a / 4), al alph (a % 4 * 16 + b / 16), al alph (b % 16 * 4 + c / 64), al alph (c % 64)]
  | _ => []
def sig4 (alph : Str) (ks : List Int) : List Nat := ks.flatMap fun a => [al alph (a / 16), al alph (a % 16)]

theorem d1 {A b : Int} (h : 0 ≤ b ∧ b < 256) : (A * 256 + b) / 16 % 16 = b / 16 := by omega
theorem d2 {A b : Int} : (A * 256 + b) % 16 = b % 16 := by omega
theorem d3 {A b : Int} (h : 0 ≤ b ∧ b < 256) : (A * 256 + b) / 16 / 16 = A := by omega
theorem s4_eq {alph : Str} {ks : List Int} {sp : Int} {n : Nat} (h : C4 ks sp n) (hin : KBa.In ks) : (sSt alph (2 ^ Int.toNat 4) (vSt ks ks.length * 2 ^ sp.toNat) n).1 = sig4 alph ks := by
  cases h with
  | c0 => rfl
  | c1 a => have ha := hin a (by simp); exact cons2 (al_eq (by simp only [dv, vSt, List.length_cons, List.length_nil, List.getD_cons_zero, List.getD_cons_succ, Nat.zero_add, pz0, pz2, pz4, pz6, fd16, fd64, fm16, fm64]; first | (simp only [Int.mul_one, d3 ha, d1 ha, d2]; done) | omega)) (cons2 (al_eq (by simp only [dv, vSt, List.length_cons, List.length_nil, List.getD_cons_zero, List.getD_cons_succ, Nat.zero_add, pz0, pz2, pz4, pz6, fd16, fd64, fm16, fm64]; first | (simp only [Int.mul_one, d3 ha, d1 ha, d2]; done) | omega)) (rfl))
  | c2 a b => have ha := hin a (by simp); have hb := hin b (by simp); exact cons2 (al_eq (by simp only [dv, vSt, List.length_cons, List.length_nil, List.getD_cons_zero, List.getD_cons_succ, Nat.zero_add, pz0, pz2, pz4, pz6, fd16, fd64, fm16, fm64]; first | (simp only [Int.mul_one, d3 hb, d3 ha, d1 hb, d1 ha, d2]; done) | omega)) (cons2 (al_eq (by simp only [dv, vSt, List.length_cons, List.length_nil, List.getD_cons_zero, List.getD_cons_succ, Nat.zero_add, pz0, pz2, pz4, pz6, fd16, fd64, fm16, fm64]; first | (simp only [Int.mul_one, d3 hb, d3 ha, d1 hb, d1 ha, d2]; done) | omega)) (cons2 (al_eq (by simp only [dv, vSt, List.length_cons, List.length_nil, List.getD_cons_zero, List.getD_cons_succ, Nat.zero_add, pz0, pz2, pz4, pz6, fd16, fd64, fm16, fm64]; first | (simp only [Int.mul_one, d3 hb, d3 ha, d1 hb, d1 ha, d2]; done) | omega)) (cons2 (al_eq (by simp only [dv, vSt, List.length_cons, List.length_nil, List.getD_cons_zero, List.getD_cons_succ, Nat.zero_add, pz0, pz2, pz4, pz6, fd16, fd64, fm16, fm64]; first | (simp only [Int.mul_one, d3 hb, d3 ha, d1 hb, d1 ha, d2]; done) | omega)) (rfl))))
  | c3 a b c => have ha := hin a (by simp); have hb := hin b (by simp); have hc := hin c (by simp); exact cons2 (al_eq (by simp only [dv, vSt, List.length_cons, List.length_nil, List.getD_cons_zero, List.getD_cons_succ, Nat.zero_add, pz0, pz2, pz4, pz6, fd16, fd64, fm16, fm64]; first | (simp only [Int.mul_one, d3 hc, d3 hb, d3 ha, d1 hc, d1 hb, d1 ha, d2]; done) | omega)) (cons2 (al_eq (by simp only [dv, vSt, List.length_cons, List.length_nil, List.getD_cons_zero, List.getD_cons_succ, Nat.zero_add, pz0, pz2, pz4, pz6, fd16, fd64, fm16, fm64]; first | (simp only [Int.mul_one, d3 hc, d3 hb, d3 ha, d1 hc, d1 hb, d1 ha, d2]; done) | omega)) (cons2 (al_eq (by simp only [dv, vSt, List.length_cons, List.length_nil, List.getD_cons_zero, List.getD_cons_succ, Nat.zero_add, pz0, pz2, pz4, pz6, fd16, fd64, fm16, fm64]; first | (simp only [Int.mul_one, d3 hc, d3 hb, d3 ha, d1 hc, d1 hb, d1 ha, d2]; done) | omega)) (cons2 (al_eq (by simp only [dv, vSt, List.length_cons, List.length_nil, List.getD_cons_zero, List.getD_cons_succ, Nat.zero_add, pz0, pz2, pz4, pz6, fd16, fd64, fm16, fm64]; first | (simp only [Int.mul_one, d3 hc, d3 hb, d3 ha, d1 hc, d1 hb, d1 ha, d2]; done) | omega)) (cons2 (al_eq (by simp only [dv, vSt, List.length_cons, List.length_nil, List.getD_cons_zero, List.getD_cons_succ, Nat.zero_add, pz0, pz2, pz4, pz6, fd16, fd64, fm16, fm64]; first | (simp only [Int.mul_one, d3 hc, d3 hb, d3 ha, d1 hc, d1 hb, d1 ha, d2]; done) | omega)) (cons2 (al_eq (by simp only [dv, vSt, List.length_cons, List.length_nil, List.getD_cons_zero, List.getD_cons_succ, Nat.zero_add, pz0, pz2, pz4, pz6, fd16, fd64, fm16, fm64]; first | (simp only [Int.mul_one, d3 hc, d3 hb, d3 ha, d1 hc, d1 hb, d1 ha, d2]; done) | omega)) (rfl))))))
theorem s6_1 {alph : Str} {a : Int} (hin : KBa.In [a]) : (sSt alph (2 ^ Int.toNat 6) (vSt [a] [a].length * 2 ^ Int.toNat 4) 2).1 ++ [61] ++ [61] = sig6 alph [a] := by
  have ha := hin a (by simp)
  exact cons2 (al_eq (by simp only [dv, vSt, List.length_cons, List.length_nil, List.getD_cons_zero, List.getD_cons_succ, Nat.zero_add, pz0, pz2, pz4, pz6, fd16, fd64, fm16, fm64]; omega)) (cons2 (al_eq (by simp only [dv, vSt, List.length_cons, List.length_nil, List.getD_cons_zero, List.getD_cons_succ, Nat.zero_add, pz0, pz2, pz4, pz6, fd16, fd64, fm16, fm64]; omega)) (rfl))
theorem s6_2 {alph : Str} {a b : Int} (hin : KBa.In [a, b]) : (sSt alph (2 ^ Int.toNat 6) (vSt [a, b] [a, b].length * 2 ^ Int.toNat 2) 3).1 ++ [61] = sig6 alph [a, b] := by
  have ha := hin a (by simp)
  have hb := hin b (by simp)
  exact cons2 (al_eq (by simp only [dv, vSt, List.length_cons, List.length_nil, List.getD_cons_zero, List.getD_cons_succ, Nat.zero_add, pz0, pz2, pz4, pz6, fd16, fd64, fm16, fm64]; omega)) (cons2 (al_eq (by simp only [dv, vSt, List.length_cons, List.length_nil, List.getD_cons_zero, List.getD_cons_succ, Nat.zero_add, pz0, pz2, pz4, pz6, fd16, fd64, fm16, fm64]; omega)) (cons2 (al_eq (by simp only [dv, vSt, List.length_cons, List.length_nil, List.getD_cons_zero, List.getD_cons_succ, Nat.zero_add, pz0, pz2, pz4, pz6, fd16, fd64, fm16, fm64]; omega)) (rfl)))
theorem s6_3 {alph : Str} {a b c : Int} (hin : KBa.In [a, b, c]) : (sSt alph (2 ^ Int.toNat 6) (vSt [a, b, c] [a, b, c].length * 2 ^ Int.toNat 0) 4).1 = sig6 alph [a, b, c] := by
  have ha := hin a (by simp)
  have hb := hin b (by simp)
  have hc := hin c (by simp)
  exact cons2 (al_eq (by simp only [dv, vSt, List.length_cons, List.length_nil, List.getD_cons_zero, List.getD_cons_succ, Nat.zero_add, pz0, pz2, pz4, pz6, fd16, fd64, fm16, fm64]; omega)) (cons2 (al_eq (by simp only [dv, vSt, List.length_cons, List.length_nil, List.getD_cons_zero, List.getD_cons_succ, Nat.zero_add, pz0, pz2, pz4, pz6, fd16, fd64, fm16, fm64]; omega)) (cons2 (al_eq (by simp only [dv, vSt, List.length_cons, List.length_nil, List.getD_cons_zero, List.getD_cons_succ, Nat.zero_add, pz0, pz2, pz4, pz6, fd16, fd64, fm16, fm64]; omega)) (cons2 (al_eq (by simp only [dv, vSt, List.length_cons, List.length_nil, List.getD_cons_zero, List.getD_cons_succ, Nat.zero_add, pz0, pz2, pz4, pz6, fd16, fd64, fm16, fm64]; omega)) (rfl))))
theorem sg4 (w : World) (bb : Array UInt8) (alph : Str) (ks : List Int) (t t2 t3 : Tok) (hbb : KBw.bInts bb = ks) (hin : KBa.In ks) (hl : ks.length ≤ 3) (hal : alph.cps.size = 36) :
    Spec w 1 121 [.bytes bb t, .int 4 t2, .str alph t3] [] (fun _ => True) (fun _ _ r => ∃ t', r = .str (strOf (sig4 alph ks)) t') := by
  obtain ⟨sp, n, hC⟩ := c4_of hl
  obtain ⟨sp0, sp4, n6⟩ := hC.lo
  have mk1 : Mark (fun (a : Int) (t : Tok) => Value.int a t) (vSt ks) (Str.ofString "value") := .intro
  have mk2 : Mark2 (fun (a : List Nat × Int) (t : Tok) => Value.str (strOf a.1) t) (fun (a : List Nat × Int) (t : Tok) => Value.int a.2 t) (sSt alph (2 ^ Int.toNat 4) (vSt ks ks.length * 2 ^ sp.toNat)) (Str.ofString "signs") (Str.ofString "value") := .intro
  intro mean mg mb dp un gd base outer s Q E B X T hd hu hp ret
  k_dflt (refine' enter (binds := [(Str.ofString "octets", .bytes bb t), (Str.ofString "bits", .int 4 t2), (Str.ofString "alphabet", .str alph t3)]) X T ?ho ?hcd ?hroom ?hbind ?hloc ?_ ?c2 ?c3 ?c4 ?c5)
  case ho => k_is
  case hcd => k_is
  case hroom => exact Nat.lt_of_le_of_lt (Nat.le_add_right _ _) hd
  case hbind => exact BindsTo.of_eq rfl
  case hloc => exact locs rfl
  case c2 => rfl
  case c3 => rfl
  case c4 => rfl
  case c5 => decide
  intro L h₁ F N
  (try dsimp only)
  (try k_fold)
  w_strict (repeat' (first
      | (k_unfold; (try dsimp only))
      | (k_end; wrow_close)
      | with_reducible ((with_reducible show wpAny _ _ (exec (Stmt.While (Expr.BoolOp _ _ _) _ _ _) _) _ _ _); k_here; k_dflt (refine whl_start 100 ?_))
      | with_reducible ((with_reducible show wpAny _ _ (pyIter (Value.ref _)) _ _ _); k_here; k_dflt (refine' iter_range2M ?mkx20 ?hhx20 ?hrx20 ?hsx20 ?hnx20 ?Fx20 ?Nx20 ?hyx20 ?hy2x20 ?ktx20 ?kdx20; (case mkx20 => with_reducible assumption); (case hhx20 => rfl); (case hrx20 => assumption); (case hsx20 => exact C4.small (by with_reducible assumption)); (case hnx20 => exact C4.size (by with_reducible assumption)); (case Fx20 | Nx20 => k_asm); (case hyx20 | hy2x20 => rfl)); (case' ktx20 => (intro i' t' ta' tb' h' tk' own' hi' off' F' N'; (try dsimp only))); (case' kdx20 => (intro u' t' tb' h' tk' F' N'; (try dsimp only))); (all_goals (try k_fold)))
      | with_reducible (k_here; (with_reducible show wpAny _ _ (storeName _ (PySem.Str.ofString "spare") (Value.int _ _)) _ _ _); k_dflt (refine' storeZ ?hzx19 ?Fx19 ?Nx19 ?_ ?ax19 ?bx19; (case hzx19 => exact C4.sp (by with_reducible assumption)); (case Fx19 | Nx19 => k_asm); (case ax19 | bx19 => rfl); k_whole; intro h' t' tk' F' N'; (try k_sweep); (try dsimp only)))
      | with_reducible (k_here; (with_reducible show wpAny _ _ (call (Value.builtin "len") [Value.bytes _ _]) _ _ _); k_dflt (refine len_b (by assumption) rfl (by omega) ?_); intro t' k')
      | with_reducible ((with_reducible show wpAny _ _ (pyIter (Value.bytes _ _)) _ _ _); k_here; k_dflt (refine' iter_bytes1M ?mkx17 ?hkx17 ?hhx17 ?Fx17 ?Nx17 ?hyx17 ?ktx17 ?kdx17; (case mkx17 => with_reducible assumption); (case hkx17 => assumption); (case hhx17 => rfl); (case Fx17 | Nx17 => k_asm); (case hyx17 => rfl)); (case' ktx17 => (intro i' c' t' ta' h' tk' own' hc' lo' hi' off' F' N'; (have he' := getK_of hc'); clear hc'; subst he'; (try dsimp only))); (case' kdx17 => (intro u' t' h' tk' F' N'; (try dsimp only))); (all_goals (try k_fold)))
      | with_reducible ((with_reducible show wpAny _ _ (exec (Stmt.For (Expr.Name _ _) (Expr.Name _ _) _ _ _) _) _ _ _); k_here; (rename Fr _ _ _ _ => lF'); (with_unfolding_all refine' For_invVF lF' ?k1x16 ?k2x16 ?_; (case k1x16 | k2x16 => exact rfl); k_whole))
      | with_reducible (k_here; (with_reducible show wpAny _ _ (call (Value.builtin "len") [Value.str (strOf _) _]) _ _ _); first | (k_dflt (refine len_s (z := 0) (by rfl) (Nat.le_of_ble_eq_true rfl) ?_); intro t' k') | (k_dflt (refine len_s (z := 2) (by rfl) (Nat.le_of_ble_eq_true rfl) ?_); intro t' k') | (k_dflt (refine len_s (z := 3) (by rfl) (Nat.le_of_ble_eq_true rfl) ?_); intro t' k') | (k_dflt (refine len_s (z := 4) (by rfl) (Nat.le_of_ble_eq_true rfl) ?_); intro t' k'))
      | with_reducible ((with_reducible show wpAny _ _ (binaryOp Operator.Add (Value.str _ _) (Value.str _ _)) _ _ _); k_here; first | (with_reducible refine cat1 (sSt_le (by assumption) (by assumption)) ?_; intro t' k') | (k_dflt (refine catE (by rw [sSt_len]; decide) ?_); intro t' k') | (k_dflt (refine catE (by rw [List.length_append, sSt_len]; decide) ?_); intro t' k'))
      | with_reducible ((with_reducible show wpAny _ _ (subscriptTail _ _ (Value.str _ _) (Value.int _ _)) _ _ _); k_here; k_dflt (refine' str_item ?k1x13 ?k2x13 ?k3x13 ?_ ?k4x13 ?k5x13; (case k1x13 => exact fmod_p _ _); (case k2x13 => exact idx_hi (by assumption) (by decide)); (case k3x13 => exact size_le (by assumption) (by decide)); (case k4x13 => with_unfolding_all rfl); (case k5x13 => (intro _; with_unfolding_all rfl)); k_whole); intro t' k')
      | with_reducible (k_here; (with_reducible refine mul_int ?_ (mul_pow (by assumption))))
      | with_reducible (k_here; (with_reducible refine meth_encode ?_))
      | with_reducible (k_here; (with_reducible show wpAny _ _ (call (Value.builtin "str.encode") [Value.str _ _, Value.str _ _]) _ _ _); (refine call_encode (by (first | assumption | exact hexOf_low _)) (by (first | assumption | omega | (simp only [List.size_toArray, hexOf_length, Array.length_toList]; omega))) ?_); intro t' k')
      | with_reducible (k_here; (with_reducible show wpAny _ _ (call (Value.builtin "bytes.translate") [Value.bytes _ _, Value.bytes _ _]) _ _ _); (refine call_translate (by decide) (by (first | assumption | omega | (simp only [byteArr_size]; omega))) ?_); intro t' k')
      | with_reducible (k_here; (with_reducible show wpAny _ _ (call (Value.builtin "bytes.upper") [Value.bytes _ _]) _ _ _); (refine call_upper (by (first | assumption | omega | (simp only [Array.size_map, List.size_toArray, hexOf_length, Array.length_toList]; omega))) ?_); intro t' k')
      | with_reducible (k_here; (with_reducible show wpAny _ _ (call (Value.builtin "bytes.hex") [Value.bytes _ _]) _ _ _); (refine call_hex (by (first | assumption | omega)) ?_); intro t' k')
      | with_reducible (k_here; first | (with_reducible refine meth_hex ?_) | (with_reducible refine meth_upper ?_) | (with_reducible refine meth_translate ?_))
      | with_reducible (k_here; (with_reducible show wpAny _ _ (call (Value.type "bytes") [Value.ref _]) _ _ _); k_dflt (refine' bytes_push ?kbaFx5 ?kbaNx5 ?kbahx5 ?kbalx5 ?kbaix5 ?kbarx5 ?kbanx5 ?_; (case kbaFx5 | kbaNx5 => k_asm); (case kbahx5 => rfl); (case kbalx5 => k_mem); (case kbaix5 => ((repeat apply ia_push); exact ia_nil)); (case kbarx5 => ((repeat (refine' in_push ?_ ?kax5 ?kbx5; (case kax5 | kbx5 => first | with_reducible assumption | decide))); exact in_nil)); (case kbanx5 => exact Nat.le_of_ble_eq_true rfl)); intro h' t' k' F' N')
      | with_reducible ((with_reducible show wpAny _ _ (storeName _ _ _) _ _ _); k_here; k_dflt (first | (refine' storeI ?Fx4 ?Nx4 ?_ ?ax4 ?bx4; (case Fx4 | Nx4 => k_asm); (case ax4 | bx4 => rfl); k_whole; intro h' t' tk' F' N'; (try k_sweep); (try dsimp only)) | (refine' storeS ?Fx4 ?Nx4 ?_ ?ax4 ?bx4; (case Fx4 | Nx4 => k_asm); (case ax4 | bx4 => rfl); k_whole; intro h' t' tk' F' N'; (try k_sweep); (try dsimp only)) | (refine' storeB ?Fx4 ?Nx4 ?_ ?ax4 ?bx4; (case Fx4 | Nx4 => k_asm); (case ax4 | bx4 => rfl); k_whole; intro h' t' tk' F' N'; (try k_sweep); (try dsimp only))))
      | with_reducible ((with_reducible show wpAny _ _ (binaryOp Operator.LShift (Value.int _ _) (Value.int _ _)) _ _ _); k_here; (with_reducible refine' lshift_int_small ?kb1x3 ?kb2x3 ?kb3x3 ?_); (case kb1x3 | kb2x3 => decide); (case kb3x3 => ((try simp only [bitAnd_m16, bitAnd_m2, bitAnd_m4]); omega)))
      | with_reducible ((with_reducible show wpAny _ _ (pyIter (Value.bytes _ _)) _ _ _); (with_reducible show wpAny _ _ (pyIter (Value.bytes _ _)) (fun it s₂ => LoopAtV _ _ _ _ _ _ _ _ _ it s₂) _ _); k_here; k_bytesUnr)
      | with_reducible (k_here; (with_reducible show wpAny _ _ (call (Value.type "type") [Value.bytes _ _]) _ _ _); refine call_type_of (typeIs_bytes _ _ _) (by decide) ?_)
      | with_reducible (k_here; (with_reducible refine floordiv_int (p256_ne ?kbex0) ?_ (Or.inl (PyProof.noPylong_small (p256_small ?kbpx0)))); (case kbex0 | kbpx0 => omega))
      | walk1
      | (dsimp only)
      | (leave1; walk_say "STEP leave1"; try dsimp only)
      | fail "no step"))
  all_goals exact ret _ _ _ (Fr.keep (by assumption)) ⟨_, congrArg (fun l => Value.str (strOf l) _) (s4_eq hC hin)⟩
theorem sg6 (w : World) (bb : Array UInt8) (alph : Str) (ks : List Int) (t t2 t3 : Tok) (hbb : KBw.bInts bb = ks) (hin : KBa.In ks) (hl : ks.length ≤ 3) (hal : alph.cps.size = 64) :
    Spec w 1 121 [.bytes bb t, .int 6 t2, .str alph t3] [] (fun _ => True) (fun _ _ r => ∃ t', r = .str (strOf (sig6 alph ks)) t') := by
  obtain ⟨sp, n, hC⟩ := c6_of hl
  obtain ⟨sp0, sp4, n6⟩ := hC.lo
  have mk1 : Mark (fun (a : Int) (t : Tok) => Value.int a t) (vSt ks) (Str.ofString "value") := .intro
  have mk2 : Mark2 (fun (a : List Nat × Int) (t : Tok) => Value.str (strOf a.1) t) (fun (a : List Nat × Int) (t : Tok) => Value.int a.2 t) (sSt alph (2 ^ Int.toNat 6) (vSt ks ks.length * 2 ^ sp.toNat)) (Str.ofString "signs") (Str.ofString "value") := .intro
  intro mean mg mb dp un gd base outer s Q E B X T hd hu hp ret
  k_dflt (refine' enter (binds := [(Str.ofString "octets", .bytes bb t), (Str.ofString "bits", .int 6 t2), (Str.ofString "alphabet", .str alph t3)]) X T ?ho ?hcd ?hroom ?hbind ?hloc ?_ ?c2 ?c3 ?c4 ?c5)
  case ho => k_is
  case hcd => k_is
  case hroom => exact Nat.lt_of_le_of_lt (Nat.le_add_right _ _) hd
  case hbind => exact BindsTo.of_eq rfl
  case hloc => exact locs rfl
  case c2 => rfl
  case c3 => rfl
  case c4 => rfl
  case c5 => decide
  intro L h₁ F N
  (try dsimp only)
  (try k_fold)
  w_strict (repeat' (first
      | (k_unfold; (try dsimp only))
      | (k_end; wrow_close)
      | with_reducible ((with_reducible show wpAny _ _ (exec (Stmt.While (Expr.BoolOp _ _ _) _ _ _) _) _ _ _); k_here; (rename C6 _ _ _ => hC9); cases hC9; (all_goals (k_dflt (refine whl_start 100 ?_))))
      | with_reducible ((with_reducible show wpAny _ _ (pyIter (Value.ref _)) _ _ _); k_here; k_dflt (refine' iter_range2M ?mkx23 ?hhx23 ?hrx23 ?hsx23 ?hnx23 ?Fx23 ?Nx23 ?hyx23 ?hy2x23 ?ktx23 ?kdx23; (case mkx23 => with_reducible assumption); (case hhx23 => rfl); (case hrx23 => assumption); (case hsx23 => exact C6.small (by with_reducible assumption)); (case hnx23 => exact C6.size (by with_reducible assumption)); (case Fx23 | Nx23 => k_asm); (case hyx23 | hy2x23 => rfl)); (case' ktx23 => (intro i' t' ta' tb' h' tk' own' hi' off' F' N'; (try dsimp only))); (case' kdx23 => (intro u' t' tb' h' tk' F' N'; (try dsimp only))); (all_goals (try k_fold)))
      | with_reducible (k_here; (with_reducible show wpAny _ _ (storeName _ (PySem.Str.ofString "spare") (Value.int _ _)) _ _ _); k_dflt (refine' storeZ ?hzx22 ?Fx22 ?Nx22 ?_ ?ax22 ?bx22; (case hzx22 => exact C6.sp (by with_reducible assumption)); (case Fx22 | Nx22 => k_asm); (case ax22 | bx22 => rfl); k_whole; intro h' t' tk' F' N'; (try k_sweep); (try dsimp only)))
      | with_reducible ((with_reducible show wpAny _ _ (exec (Stmt.While (Expr.BoolOp _ _ _) _ _ _) _) _ _ _); k_here; k_dflt (refine whl_start 100 ?_))
      | with_reducible ((with_reducible show wpAny _ _ (pyIter (Value.ref _)) _ _ _); k_here; k_dflt (refine' iter_range2M ?mkx20 ?hhx20 ?hrx20 ?hsx20 ?hnx20 ?Fx20 ?Nx20 ?hyx20 ?hy2x20 ?ktx20 ?kdx20; (case mkx20 => with_reducible assumption); (case hhx20 => rfl); (case hrx20 => assumption); (case hsx20 => exact C4.small (by with_reducible assumption)); (case hnx20 => exact C4.size (by with_reducible assumption)); (case Fx20 | Nx20 => k_asm); (case hyx20 | hy2x20 => rfl)); (case' ktx20 => (intro i' t' ta' tb' h' tk' own' hi' off' F' N'; (try dsimp only))); (case' kdx20 => (intro u' t' tb' h' tk' F' N'; (try dsimp only))); (all_goals (try k_fold)))
      | with_reducible (k_here; (with_reducible show wpAny _ _ (storeName _ (PySem.Str.ofString "spare") (Value.int _ _)) _ _ _); k_dflt (refine' storeZ ?hzx19 ?Fx19 ?Nx19 ?_ ?ax19 ?bx19; (case hzx19 => exact C4.sp (by with_reducible assumption)); (case Fx19 | Nx19 => k_asm); (case ax19 | bx19 => rfl); k_whole; intro h' t' tk' F' N'; (try k_sweep); (try dsimp only)))
      | with_reducible (k_here; (with_reducible show wpAny _ _ (call (Value.builtin "len") [Value.bytes _ _]) _ _ _); k_dflt (refine len_b (by assumption) rfl (by omega) ?_); intro t' k')
      | with_reducible ((with_reducible show wpAny _ _ (pyIter (Value.bytes _ _)) _ _ _); k_here; k_dflt (refine' iter_bytes1M ?mkx17 ?hkx17 ?hhx17 ?Fx17 ?Nx17 ?hyx17 ?ktx17 ?kdx17; (case mkx17 => with_reducible assumption); (case hkx17 => assumption); (case hhx17 => rfl); (case Fx17 | Nx17 => k_asm); (case hyx17 => rfl)); (case' ktx17 => (intro i' c' t' ta' h' tk' own' hc' lo' hi' off' F' N'; (have he' := getK_of hc'); clear hc'; subst he'; (try dsimp only))); (case' kdx17 => (intro u' t' h' tk' F' N'; (try dsimp only))); (all_goals (try k_fold)))
      | with_reducible ((with_reducible show wpAny _ _ (exec (Stmt.For (Expr.Name _ _) (Expr.Name _ _) _ _ _) _) _ _ _); k_here; (rename Fr _ _ _ _ => lF'); (with_unfolding_all refine' For_invVF lF' ?k1x16 ?k2x16 ?_; (case k1x16 | k2x16 => exact rfl); k_whole))
      | with_reducible (k_here; (with_reducible show wpAny _ _ (call (Value.builtin "len") [Value.str (strOf _) _]) _ _ _); first | (k_dflt (refine len_s (z := 0) (by rfl) (Nat.le_of_ble_eq_true rfl) ?_); intro t' k') | (k_dflt (refine len_s (z := 2) (by rfl) (Nat.le_of_ble_eq_true rfl) ?_); intro t' k') | (k_dflt (refine len_s (z := 3) (by rfl) (Nat.le_of_ble_eq_true rfl) ?_); intro t' k') | (k_dflt (refine len_s (z := 4) (by rfl) (Nat.le_of_ble_eq_true rfl) ?_); intro t' k'))
      | with_reducible ((with_reducible show wpAny _ _ (binaryOp Operator.Add (Value.str _ _) (Value.str _ _)) _ _ _); k_here; first | (with_reducible refine cat1 (sSt_le (by assumption) (by assumption)) ?_; intro t' k') | (k_dflt (refine catE (by rw [sSt_len]; decide) ?_); intro t' k') | (k_dflt (refine catE (by rw [List.length_append, sSt_len]; decide) ?_); intro t' k'))
      | with_reducible ((with_reducible show wpAny _ _ (subscriptTail _ _ (Value.str _ _) (Value.int _ _)) _ _ _); k_here; k_dflt (refine' str_item ?k1x13 ?k2x13 ?k3x13 ?_ ?k4x13 ?k5x13; (case k1x13 => exact fmod_p _ _); (case k2x13 => exact idx_hi (by assumption) (by decide)); (case k3x13 => exact size_le (by assumption) (by decide)); (case k4x13 => with_unfolding_all rfl); (case k5x13 => (intro _; with_unfolding_all rfl)); k_whole); intro t' k')
      | with_reducible (k_here; (with_reducible refine mul_int ?_ (mul_pow (by assumption))))
      | with_reducible (k_here; (with_reducible refine meth_encode ?_))
      | with_reducible (k_here; (with_reducible show wpAny _ _ (call (Value.builtin "str.encode") [Value.str _ _, Value.str _ _]) _ _ _); (refine call_encode (by (first | assumption | exact hexOf_low _)) (by (first | assumption | omega | (simp only [List.size_toArray, hexOf_length, Array.length_toList]; omega))) ?_); intro t' k')
      | with_reducible (k_here; (with_reducible show wpAny _ _ (call (Value.builtin "bytes.translate") [Value.bytes _ _, Value.bytes _ _]) _ _ _); (refine call_translate (by decide) (by (first | assumption | omega | (simp only [byteArr_size]; omega))) ?_); intro t' k')
      | with_reducible (k_here; (with_reducible show wpAny _ _ (call (Value.builtin "bytes.upper") [Value.bytes _ _]) _ _ _); (refine call_upper (by (first | assumption | omega | (simp only [Array.size_map, List.size_toArray, hexOf_length, Array.length_toList]; omega))) ?_); intro t' k')
      | with_reducible (k_here; (with_reducible show wpAny _ _ (call (Value.builtin "bytes.hex") [Value.bytes _ _]) _ _ _); (refine call_hex (by (first | assumption | omega)) ?_); intro t' k')
      | with_reducible (k_here; first | (with_reducible refine meth_hex ?_) | (with_reducible refine meth_upper ?_) | (with_reducible refine meth_translate ?_))
      | with_reducible (k_here; (with_reducible show wpAny _ _ (call (Value.type "bytes") [Value.ref _]) _ _ _); k_dflt (refine' bytes_push ?kbaFx5 ?kbaNx5 ?kbahx5 ?kbalx5 ?kbaix5 ?kbarx5 ?kbanx5 ?_; (case kbaFx5 | kbaNx5 => k_asm); (case kbahx5 => rfl); (case kbalx5 => k_mem); (case kbaix5 => ((repeat apply ia_push); exact ia_nil)); (case kbarx5 => ((repeat (refine' in_push ?_ ?kax5 ?kbx5; (case kax5 | kbx5 => first | with_reducible assumption | decide))); exact in_nil)); (case kbanx5 => exact Nat.le_of_ble_eq_true rfl)); intro h' t' k' F' N')
      | with_reducible ((with_reducible show wpAny _ _ (storeName _ _ _) _ _ _); k_here; k_dflt (first | (refine' storeI ?Fx4 ?Nx4 ?_ ?ax4 ?bx4; (case Fx4 | Nx4 => k_asm); (case ax4 | bx4 => rfl); k_whole; intro h' t' tk' F' N'; (try k_sweep); (try dsimp only)) | (refine' storeS ?Fx4 ?Nx4 ?_ ?ax4 ?bx4; (case Fx4 | Nx4 => k_asm); (case ax4 | bx4 => rfl); k_whole; intro h' t' tk' F' N'; (try k_sweep); (try dsimp only)) | (refine' storeB ?Fx4 ?Nx4 ?_ ?ax4 ?bx4; (case Fx4 | Nx4 => k_asm); (case ax4 | bx4 => rfl); k_whole; intro h' t' tk' F' N'; (try k_sweep); (try dsimp only))))
      | with_reducible ((with_reducible show wpAny _ _ (binaryOp Operator.LShift (Value.int _ _) (Value.int _ _)) _ _ _); k_here; (with_reducible refine' lshift_int_small ?kb1x3 ?kb2x3 ?kb3x3 ?_); (case kb1x3 | kb2x3 => decide); (case kb3x3 => ((try simp only [bitAnd_m16, bitAnd_m2, bitAnd_m4]); omega)))
      | with_reducible ((with_reducible show wpAny _ _ (pyIter (Value.bytes _ _)) _ _ _); (with_reducible show wpAny _ _ (pyIter (Value.bytes _ _)) (fun it s₂ => LoopAtV _ _ _ _ _ _ _ _ _ it s₂) _ _); k_here; k_bytesUnr)
      | with_reducible (k_here; (with_reducible show wpAny _ _ (call (Value.type "type") [Value.bytes _ _]) _ _ _); refine call_type_of (typeIs_bytes _ _ _) (by decide) ?_)
      | with_reducible (k_here; (with_reducible refine floordiv_int (p256_ne ?kbex0) ?_ (Or.inl (PyProof.noPylong_small (p256_small ?kbpx0)))); (case kbex0 | kbpx0 => omega))
      | walk1
      | (dsimp only)
      | (leave1; walk_say "STEP leave1"; try dsimp only)
      | fail "no step"))
  · exact ret _ _ _ (Fr.keep (by assumption)) ⟨_, rfl⟩
  · exact ret _ _ _ (Fr.keep (by assumption)) ⟨_, congrArg (fun l => Value.str (strOf l) _) (s6_1 hin)⟩
  · exact ret _ _ _ (Fr.keep (by assumption)) ⟨_, congrArg (fun l => Value.str (strOf l) _) (s6_2 hin)⟩
  · exact ret _ _ _ (Fr.keep (by assumption)) ⟨_, congrArg (fun l => Value.str (strOf l) _) (s6_3 hin)⟩
end Mine
end

section
open PySem PySem.W PyProof.Rows PySem.Calls
set_option maxRecDepth 100000
set_option maxHeartbeats 8000000
namespace Mine
/-- the head leaves its own lines switched on: off again -/
theorem offP4 : True := by w_top off; trivial

/-- the weight of a writing: its signs' places, by 66s -/
def wSt (rk : Nat → Int) (l : List Nat) : Nat → Int
  | 0 => 0
  | i + 1 => wSt rk l i * 66 + rk (l.getD i 0) + 1
theorem getD_mem {l : List Nat} {i : Nat} (h : i < l.length) : l.getD i 0 ∈ l := by
  rw [List.getD, List.getElem?_eq_getElem h]; exact List.getElem_mem h
theorem getD_of {l : List Nat} {i c : Nat} (h : (strOf l).cps[i]? = some c) : c = l.getD i 0 ∧ i < l.length := by
  have h' : l[i]? = some c := by simpa [strOf] using h
  exact ⟨by rw [List.getD, h']; rfl, by have := (List.getElem?_eq_some_iff.mp h').1; exact this⟩
theorem wSt_b (rk : Nat → Int) (l : List Nat) (h : ∀ c ∈ l, 0 ≤ rk c ∧ rk c < 65) : ∀ i, i ≤ l.length → i ≤ 4 → 0 ≤ wSt rk l i ∧ wSt rk l i < 66 ^ i
  | 0, _, _ => by simp [wSt]
  | i + 1, hi, h4 => by
    have ih := wSt_b rk l h i (by omega) (by omega)
    have hc := h (l.getD i 0) (getD_mem (by omega))
    simp only [wSt]
    have : (66 : Int) ^ (i + 1) = 66 ^ i * 66 := Int.pow_succ 66 i
    omega
/-- the place of a sign in a text -/
def Ranks (order : Str) (rk : Nat → Int) (c : Nat) : Prop := ∃ (k : Nat) (rest : List Nat), PySem.Builtin.Str.occurrences order (strOf [c]) 0 order.length 1 = k :: rest ∧ (k : Int) = rk c
theorem call_index {prog : Program} {w : World} {A : Around} {E : Value → Shared → Prop} {s : Shared} {order : Str} {rk : Nat → Int} {c : Nat} {t u : Tok} {Q : Value → Shared → Prop} (h : Ranks order rk c) (hq : ∀ t' k, Q (.int (rk c) t') { s with toks := k }) :
    wpAny (model prog w) A (call (.builtin "str.index") [.str order t, .str (strOf [c]) u]) Q E s := by
  obtain ⟨k, rest, ho, hk⟩ := h
  refine call_gives F.slot_str_index (typeIs_str _ _ _) F.entry_str_index (F.args_str_index_2 _ _) (gives_str_index order (strOf [c]) t u k rest ho) ?_
  show Q (.int k _) _
  rw [hk]; exact hq _ _
theorem meth_index {M : Model} {A : Around} {E : Value → Shared → Prop} {s : Shared} {x : Str} {t : Tok} {pl : Sem Bool} {Q : Value × List Value → Shared → Prop} (h : Q (.builtin "str.index", [.str x t]) s) : wpAny M A (getMethod (.str x t) (Str.ofString "index") pl) Q E s := by
  with_reducible exact getMethod_builtin (typeIs_str _ _ _) F.plainAttrs_str F.slot_str_index F.type_str_index (fun _ e => nomatch e) h
theorem ranks_of {order : Str} {rk : Nat → Int} {l : List Nat} {i : Nat} (hR : ∀ c ∈ l, Ranks order rk c) (hi : i < l.length) : Ranks order rk (l.getD i 0) := hR _ (getD_mem hi)
theorem sp_weight (w : World) (l : List Nat) (order : Str) (rk : Nat → Int) (t t2 : Tok) (hl : l.length ≤ 4) (hR : ∀ c ∈ l, Ranks order rk c) (hrk : ∀ c ∈ l, 0 ≤ rk c ∧ rk c < 65) :
    Spec w 1 128 [.str (strOf l) t, .str order t2] [] (fun _ => True) (fun _ _ r => ∃ t', r = .int (wSt rk l l.length) t') := by
  have mk9 : Mark (fun (a : Int) (t : Tok) => Value.int a t) (wSt rk l) (Str.ofString "weight") := .intro
  intro mean mg mb dp un gd base outer s Q E B X T hd hu hp ret
  k_dflt (refine' enter (binds := [(Str.ofString "signs", .str (strOf l) t), (Str.ofString "order", .str order t2)]) X T ?ho ?hcd ?hroom ?hbind ?hloc ?_ ?c2 ?c3 ?c4 ?c5)
  case ho => k_is
  case hcd => k_is
  case hroom => exact Nat.lt_of_le_of_lt (Nat.le_add_right _ _) hd
  case hbind => exact BindsTo.of_eq rfl
  case hloc => exact locs rfl
  case c2 => rfl
  case c3 => rfl
  case c4 => rfl
  case c5 => decide
  intro L h₁ F N
  (try dsimp only)
  (try k_fold)
  w_strict (repeat' (first
      | (k_unfold; (try dsimp only))
      | (k_end; wrow_close)
      | with_reducible ((with_reducible show wpAny _ _ (exec (Stmt.For (Expr.Name _ _) (Expr.Name _ _) _ _ _) _) _ _ _); k_here; (rename Fr _ _ _ _ => lF'); (with_unfolding_all refine' For_invVF lF' ?k1x15 ?k2x15 ?_; (case k1x15 | k2x15 => exact rfl); k_whole))
      | with_reducible ((with_reducible show wpAny _ _ (pyIter (Value.str _ _)) _ _ _); k_here; k_dflt (refine' iter_str1M ?mkx14 ?hhx14 ?Fx14 ?Nx14 ?hyx14 ?ktx14 ?kdx14; (case mkx14 => with_reducible assumption); (case hhx14 => rfl); (case Fx14 | Nx14 => k_asm); (case hyx14 => rfl)); (case' ktx14 => (intro i' c' t' ta' h' tk' own' hc' off' F' N'; (have hi' := (getD_of hc').2); (have he' := (getD_of hc').1); clear hc'; subst he'; (try dsimp only))); (case' kdx14 => (intro u' t' h' tk' F' N'; (try dsimp only))); (all_goals (try k_fold)))
      | with_reducible ((with_reducible show wpAny _ _ (call (Value.builtin "str.index") _ _) _ _ _); k_here; k_dflt (refine' call_index ?krx13 ?_; (case krx13 => exact ranks_of (by assumption) (by assumption))); intro t' k')
      | with_reducible (k_here; (with_reducible refine meth_index ?_))
      | with_reducible (k_here; (with_reducible refine meth_encode ?_))
      | with_reducible (k_here; (with_reducible show wpAny _ _ (call (Value.builtin "str.encode") [Value.str _ _, Value.str _ _]) _ _ _); (refine call_encode (by (first | assumption | exact hexOf_low _)) (by (first | assumption | omega | (simp only [List.size_toArray, hexOf_length, Array.length_toList]; omega))) ?_); intro t' k')
      | with_reducible (k_here; (with_reducible show wpAny _ _ (call (Value.builtin "bytes.translate") [Value.bytes _ _, Value.bytes _ _]) _ _ _); (refine call_translate (by decide) (by (first | assumption | omega | (simp only [byteArr_size]; omega))) ?_); intro t' k')
      | with_reducible (k_here; (with_reducible show wpAny _ _ (call (Value.builtin "bytes.upper") [Value.bytes _ _]) _ _ _); (refine call_upper (by (first | assumption | omega | (simp only [Array.size_map, List.size_toArray, hexOf_length, Array.length_toList]; omega))) ?_); intro t' k')
      | with_reducible (k_here; (with_reducible show wpAny _ _ (call (Value.builtin "bytes.hex") [Value.bytes _ _]) _ _ _); (refine call_hex (by (first | assumption | omega)) ?_); intro t' k')
      | with_reducible (k_here; first | (with_reducible refine meth_hex ?_) | (with_reducible refine meth_upper ?_) | (with_reducible refine meth_translate ?_))
      | with_reducible (k_here; (with_reducible show wpAny _ _ (call (Value.type "bytes") [Value.ref _]) _ _ _); k_dflt (refine' bytes_push ?kbaFx5 ?kbaNx5 ?kbahx5 ?kbalx5 ?kbaix5 ?kbarx5 ?kbanx5 ?_; (case kbaFx5 | kbaNx5 => k_asm); (case kbahx5 => rfl); (case kbalx5 => k_mem); (case kbaix5 => ((repeat apply ia_push); exact ia_nil)); (case kbarx5 => ((repeat (refine' in_push ?_ ?kax5 ?kbx5; (case kax5 | kbx5 => first | with_reducible assumption | decide))); exact in_nil)); (case kbanx5 => exact Nat.le_of_ble_eq_true rfl)); intro h' t' k' F' N')
      | with_reducible ((with_reducible show wpAny _ _ (storeName _ _ _) _ _ _); k_here; k_dflt (first | (refine' storeI ?Fx4 ?Nx4 ?_ ?ax4 ?bx4; (case Fx4 | Nx4 => k_asm); (case ax4 | bx4 => rfl); k_whole; intro h' t' tk' F' N'; (try k_sweep); (try dsimp only)) | (refine' storeS ?Fx4 ?Nx4 ?_ ?ax4 ?bx4; (case Fx4 | Nx4 => k_asm); (case ax4 | bx4 => rfl); k_whole; intro h' t' tk' F' N'; (try k_sweep); (try dsimp only)) | (refine' storeB ?Fx4 ?Nx4 ?_ ?ax4 ?bx4; (case Fx4 | Nx4 => k_asm); (case ax4 | bx4 => rfl); k_whole; intro h' t' tk' F' N'; (try k_sweep); (try dsimp only))))
      | with_reducible ((with_reducible show wpAny _ _ (binaryOp Operator.LShift (Value.int _ _) (Value.int _ _)) _ _ _); k_here; (with_reducible refine' lshift_int_small ?kb1x3 ?kb2x3 ?kb3x3 ?_); (case kb1x3 | kb2x3 => decide); (case kb3x3 => ((try simp only [bitAnd_m16, bitAnd_m2, bitAnd_m4]); omega)))
      | with_reducible ((with_reducible show wpAny _ _ (pyIter (Value.bytes _ _)) _ _ _); (with_reducible show wpAny _ _ (pyIter (Value.bytes _ _)) (fun it s₂ => LoopAtV _ _ _ _ _ _ _ _ _ it s₂) _ _); k_here; k_bytesUnr)
      | with_reducible (k_here; (with_reducible show wpAny _ _ (call (Value.type "type") [Value.bytes _ _]) _ _ _); refine call_type_of (typeIs_bytes _ _ _) (by decide) ?_)
      | with_reducible (k_here; (with_reducible refine floordiv_int (p256_ne ?kbex0) ?_ (Or.inl (PyProof.noPylong_small (p256_small ?kbpx0)))); (case kbex0 | kbpx0 => omega))
      | walk1
      | (dsimp only)
      | (leave1; walk_say "STEP leave1"; try dsimp only)
      | fail "no step"))
  all_goals exact ret _ _ _ (Fr.keep (by assumption)) ⟨_, congrArg (fun n => Value.int (wSt rk l n) _) (by simp [strOf])⟩

/-- octets end to end, by 257s -/
def eSt (ks : List Int) : Nat → Int
  | 0 => 0
  | i + 1 => if (i : Int) < (ks.length : Int) then eSt ks i * 257 + ks.getD i 0 + 1 else eSt ks i * 257
theorem sp_ends (w : World) (bb : Array UInt8) (ks : List Int) (t : Tok) (hb : KBw.bInts bb = ks) (hl : ks.length ≤ 3) :
    Spec w 1 135 [.bytes bb t] [] (fun _ => True) (fun _ _ r => ∃ t', r = .int (eSt ks 3) t') := by
  have mk9 : Mark (fun (a : Int) (t : Tok) => Value.int a t) (eSt ks) (Str.ofString "weight") := .intro
  intro mean mg mb dp un gd base outer s Q E B X T hd hu hp ret
  k_dflt (refine' enter (binds := [(Str.ofString "octets", .bytes bb t)]) X T ?ho ?hcd ?hroom ?hbind ?hloc ?_ ?c2 ?c3 ?c4 ?c5)
  case ho => k_is
  case hcd => k_is
  case hroom => exact Nat.lt_of_le_of_lt (Nat.le_add_right _ _) hd
  case hbind => exact BindsTo.of_eq rfl
  case hloc => exact locs rfl
  case c2 => rfl
  case c3 => rfl
  case c4 => rfl
  case c5 => decide
  intro L h₁ F N
  (try dsimp only)
  (try k_fold)
  w_strict (repeat' (first
      | (k_unfold; (try dsimp only))
      | (k_end; wrow_close)
      | with_reducible ((with_reducible show wpAny _ _ (subscriptTail _ _ (Value.bytes _ _) (Value.int _ _)) _ _ _); k_here; k_dflt (refine' bytes_item ?k1x17 ?k2x17 ?k3x17 ?_ ?k4x17 ?k5x17; (case k1x17 | k2x17 => assumption); (case k3x17 => first | assumption | omega); (case k4x17 => with_unfolding_all rfl); (case k5x17 => (intro _; with_unfolding_all rfl)); k_whole); intro t' k')
      | with_reducible ((with_reducible show wpAny _ _ (pyIter (Value.ref _)) _ _ _); k_here; k_dflt (refine' iter_range1M ?mkx16 ?hhx16 ?hrx16 ?hsx16 ?hnx16 ?Fx16 ?Nx16 ?hyx16 ?ktx16 ?kdx16; (case mkx16 => with_reducible assumption); (case hhx16 => rfl); (case hrx16 => assumption); (case hsx16 => decide); (case hnx16 => rfl); (case Fx16 | Nx16 => k_asm); (case hyx16 => rfl)); (case' ktx16 => (intro i' t' ta' h' tk' own' hi' off' F' N'; (try dsimp only))); (case' kdx16 => (intro u' t' h' tk' F' N'; (try dsimp only))); (all_goals (try k_fold)))
      | with_reducible ((with_reducible show wpAny _ _ (exec (Stmt.For (Expr.Name _ _) (Expr.Name _ _) _ _ _) _) _ _ _); k_here; (rename Fr _ _ _ _ => lF'); (with_unfolding_all refine' For_invVF lF' ?k1x15 ?k2x15 ?_; (case k1x15 | k2x15 => exact rfl); k_whole))
      | with_reducible ((with_reducible show wpAny _ _ (pyIter (Value.str _ _)) _ _ _); k_here; k_dflt (refine' iter_str1M ?mkx14 ?hhx14 ?Fx14 ?Nx14 ?hyx14 ?ktx14 ?kdx14; (case mkx14 => with_reducible assumption); (case hhx14 => rfl); (case Fx14 | Nx14 => k_asm); (case hyx14 => rfl)); (case' ktx14 => (intro i' c' t' ta' h' tk' own' hc' off' F' N'; (have hi' := (getD_of hc').2); (have he' := (getD_of hc').1); clear hc'; subst he'; (try dsimp only))); (case' kdx14 => (intro u' t' h' tk' F' N'; (try dsimp only))); (all_goals (try k_fold)))
      | with_reducible ((with_reducible show wpAny _ _ (call (Value.builtin "str.index") _ _) _ _ _); k_here; k_dflt (refine' call_index ?krx13 ?_; (case krx13 => exact ranks_of (by assumption) (by assumption))); intro t' k')
      | with_reducible (k_here; (with_reducible refine meth_index ?_))
      | with_reducible (k_here; (with_reducible refine meth_encode ?_))
      | with_reducible (k_here; (with_reducible show wpAny _ _ (call (Value.builtin "str.encode") [Value.str _ _, Value.str _ _]) _ _ _); (refine call_encode (by (first | assumption | exact hexOf_low _)) (by (first | assumption | omega | (simp only [List.size_toArray, hexOf_length, Array.length_toList]; omega))) ?_); intro t' k')
      | with_reducible (k_here; (with_reducible show wpAny _ _ (call (Value.builtin "bytes.translate") [Value.bytes _ _, Value.bytes _ _]) _ _ _); (refine call_translate (by decide) (by (first | assumption | omega | (simp only [byteArr_size]; omega))) ?_); intro t' k')
      | with_reducible (k_here; (with_reducible show wpAny _ _ (call (Value.builtin "bytes.upper") [Value.bytes _ _]) _ _ _); (refine call_upper (by (first | assumption | omega | (simp only [Array.size_map, List.size_toArray, hexOf_length, Array.length_toList]; omega))) ?_); intro t' k')
      | with_reducible (k_here; (with_reducible show wpAny _ _ (call (Value.builtin "bytes.hex") [Value.bytes _ _]) _ _ _); (refine call_hex (by (first | assumption | omega)) ?_); intro t' k')
      | with_reducible (k_here; first | (with_reducible refine meth_hex ?_) | (with_reducible refine meth_upper ?_) | (with_reducible refine meth_translate ?_))
      | with_reducible (k_here; (with_reducible show wpAny _ _ (call (Value.type "bytes") [Value.ref _]) _ _ _); k_dflt (refine' bytes_push ?kbaFx5 ?kbaNx5 ?kbahx5 ?kbalx5 ?kbaix5 ?kbarx5 ?kbanx5 ?_; (case kbaFx5 | kbaNx5 => k_asm); (case kbahx5 => rfl); (case kbalx5 => k_mem); (case kbaix5 => ((repeat apply ia_push); exact ia_nil)); (case kbarx5 => ((repeat (refine' in_push ?_ ?kax5 ?kbx5; (case kax5 | kbx5 => first | with_reducible assumption | decide))); exact in_nil)); (case kbanx5 => exact Nat.le_of_ble_eq_true rfl)); intro h' t' k' F' N')
      | with_reducible ((with_reducible show wpAny _ _ (storeName _ _ _) _ _ _); k_here; k_dflt (first | (refine' storeI ?Fx4 ?Nx4 ?_ ?ax4 ?bx4; (case Fx4 | Nx4 => k_asm); (case ax4 | bx4 => rfl); k_whole; intro h' t' tk' F' N'; (try k_sweep); (try dsimp only)) | (refine' storeS ?Fx4 ?Nx4 ?_ ?ax4 ?bx4; (case Fx4 | Nx4 => k_asm); (case ax4 | bx4 => rfl); k_whole; intro h' t' tk' F' N'; (try k_sweep); (try dsimp only)) | (refine' storeB ?Fx4 ?Nx4 ?_ ?ax4 ?bx4; (case Fx4 | Nx4 => k_asm); (case ax4 | bx4 => rfl); k_whole; intro h' t' tk' F' N'; (try k_sweep); (try dsimp only))))
      | with_reducible ((with_reducible show wpAny _ _ (binaryOp Operator.LShift (Value.int _ _) (Value.int _ _)) _ _ _); k_here; (with_reducible refine' lshift_int_small ?kb1x3 ?kb2x3 ?kb3x3 ?_); (case kb1x3 | kb2x3 => decide); (case kb3x3 => ((try simp only [bitAnd_m16, bitAnd_m2, bitAnd_m4]); omega)))
      | with_reducible ((with_reducible show wpAny _ _ (pyIter (Value.bytes _ _)) _ _ _); (with_reducible show wpAny _ _ (pyIter (Value.bytes _ _)) (fun it s₂ => LoopAtV _ _ _ _ _ _ _ _ _ it s₂) _ _); k_here; k_bytesUnr)
      | with_reducible (k_here; (with_reducible show wpAny _ _ (call (Value.type "type") [Value.bytes _ _]) _ _ _); refine call_type_of (typeIs_bytes _ _ _) (by decide) ?_)
      | with_reducible (k_here; (with_reducible refine floordiv_int (p256_ne ?kbex0) ?_ (Or.inl (PyProof.noPylong_small (p256_small ?kbpx0)))); (case kbex0 | kbpx0 => omega))
      | walk1
      | (dsimp only)
      | (leave1; walk_say "STEP leave1"; try dsimp only)
      | fail "no step"))
  case kdx16.refine'_4 => exact ret _ _ _ (Fr.keep (by assumption)) ⟨_, rfl⟩
  all_goals (refine one_end (by k_asm) (by k_asm) (fun p hp => hp) ⟨_, congrArg (fun e => some (Value.int e _)) ?_⟩ (fun z h1 h2 => by simp [h1, h2]))
  · exact (if_pos (by simp_all)).symm
  · exact (if_neg (by simp_all)).symm
end Mine
end

section
open PySem PySem.W PyProof.Rows PySem.Calls
set_option maxRecDepth 100000
namespace Mine
theorem octI_in (x : Int) : KBa.In (octI x) := by
  intro n hn
  obtain ⟨k, _, rfl⟩ := List.mem_map.mp hn
  exact ⟨Int.fmod_nonneg_of_pos _ (by decide), Int.fmod_lt_of_pos _ (by decide)⟩
theorem octI_len (x : Int) : (octI x).length ≤ 3 := by
  have h1 : x.fmod 4 < 4 := Int.fmod_lt_of_pos _ (by decide)
  simp only [octI, List.length_map, rangeKs_length]
  omega
theorem octI_size (x : Int) : (byteArr (octI x)).size ≤ 3 := by rw [byteArr_size]; exact octI_len x
def great : Str := Str.ofString "ABCDEFGHIJKLMNOPQRSTUVWXYZ"
def small : Str := Str.ofString "abcdefghijklmnopqrstuvwxyz"
def figures : Str := Str.ofString "0123456789"
/-- the three alphabets, the two orders -/
def alph1 : Str := figures ++ great
def alph2 : Str := great ++ small ++ figures ++ Str.ofString "+/"
def alph3 : Str := great ++ small ++ figures ++ Str.ofString "-_"
def order2 : Str := Str.ofString "+/" ++ figures ++ Str.ofString "=" ++ great ++ small
def order3 : Str := Str.ofString "-" ++ figures ++ Str.ofString "=" ++ great ++ Str.ofString "_" ++ small
theorem alph1_size : alph1.cps.size = 36 := by decide +kernel
theorem alph2_size : alph2.cps.size = 64 := by decide +kernel
theorem alph3_size : alph3.cps.size = 64 := by decide +kernel
def codes2 : List Nat := [43, 47] ++ (List.range 10).map (48 + ·) ++ [61] ++ (List.range 26).map (65 + ·) ++ (List.range 26).map (97 + ·)
def codes3 : List Nat := [45] ++ (List.range 10).map (48 + ·) ++ [61] ++ (List.range 26).map (65 + ·) ++ [95] ++ (List.range 26).map (97 + ·)
def rk2 (c : Nat) : Int := (codes2.idxOf c : Int)
def rk3 (c : Nat) : Int := (codes3.idxOf c : Int)
theorem ranks2 : ∀ c ∈ codes2, PySem.Builtin.Str.occurrences order2 (strOf [c]) 0 order2.length 1 = [codes2.idxOf c] := by decide +kernel
theorem ranks3 : ∀ c ∈ codes3, PySem.Builtin.Str.occurrences order3 (strOf [c]) 0 order3.length 1 = [codes3.idxOf c] := by decide +kernel
theorem rk2_lt : ∀ c ∈ codes2, codes2.idxOf c < 65 := by decide +kernel
theorem rk3_lt : ∀ c ∈ codes3, codes3.idxOf c < 65 := by decide +kernel
theorem al2_in : ∀ i < 64, alph2.cps.getD i 0 ∈ codes2 := by decide +kernel
theorem al3_in : ∀ i < 64, alph3.cps.getD i 0 ∈ codes3 := by decide +kernel
theorem al2_mem {i : Int} (h0 : 0 ≤ i) (h : i < 64) : al alph2 i ∈ codes2 := al2_in i.toNat (by omega)
theorem al3_mem {i : Int} (h0 : 0 ≤ i) (h : i < 64) : al alph3 i ∈ codes3 := al3_in i.toNat (by omega)
theorem sig6_mem {alph : Str} {codes : List Nat} (h61 : 61 ∈ codes) (hal : ∀ {i : Int}, 0 ≤ i → i < 64 → al alph i ∈ codes) {o : List Int} (hin : KBa.In o) : ∀ c ∈ sig6 alph o, c ∈ codes := by
  intro c hc
  match o, hin with
  | [], _ => cases hc
  | [a], hin =>
    have ha := hin a (by simp)
    simp only [sig6, List.mem_cons, List.not_mem_nil, or_false] at hc
    rcases hc with rfl | rfl | rfl | rfl
    · exact hal (by omega) (by omega)
    · exact hal (by omega) (by omega)
    · exact h61
    · exact h61
  | [a, b], hin =>
    have ha := hin a (by simp)
    have hb := hin b (by simp)
    simp only [sig6, List.mem_cons, List.not_mem_nil, or_false] at hc
    rcases hc with rfl | rfl | rfl | rfl
    · exact hal (by omega) (by omega)
    · exact hal (by omega) (by omega)
    · exact hal (by omega) (by omega)
    · exact h61
  | [a, b, c'], hin =>
    have ha := hin a (by simp)
    have hb := hin b (by simp)
    have hc' := hin c' (by simp)
    simp only [sig6, List.mem_cons, List.not_mem_nil, or_false] at hc
    rcases hc with rfl | rfl | rfl | rfl
    · exact hal (by omega) (by omega)
    · exact hal (by omega) (by omega)
    · exact hal (by omega) (by omega)
    · exact hal (by omega) (by omega)
  | _ :: _ :: _ :: _ :: _, _ => cases hc
theorem sig6_len (alph : Str) (o : List Int) : (sig6 alph o).length ≤ 4 := by
  match o with
  | [] | [_] | [_, _] | [_, _, _] | _ :: _ :: _ :: _ :: _ => simp [sig6]
/-- the law's own columns of a number, as plain data -/
def g1 (x : Int) : List Nat := sig4 alph1 (octI x)
def g2 (x : Int) : List Nat := sig6 alph2 (octI x)
def g3 (x : Int) : List Nat := sig6 alph3 (octI x)
theorem g2_mem (x : Int) : ∀ c ∈ g2 x, c ∈ codes2 := sig6_mem (by decide) al2_mem (octI_in x)
theorem g3_mem (x : Int) : ∀ c ∈ g3 x, c ∈ codes3 := sig6_mem (by decide) al3_mem (octI_in x)
def w1 (x : Int) : Int := eSt (octI x) 3
def w2 (x : Int) : Int := wSt rk2 (g2 x) (g2 x).length
def w3 (x : Int) : Int := wSt rk3 (g3 x) (g3 x).length
theorem sp_g1 (w : World) (x : Int) (t t2 t3 : Tok) : Spec w 1 121 [.bytes (byteArr (octI x)) t, .int 4 t2, .str alph1 t3] [] (fun _ => True) (fun _ _ r => ∃ t', r = .str (strOf (g1 x)) t') :=
  sg4 w _ alph1 (octI x) t t2 t3 (KBa.ints_make (octI_in x)) (octI_in x) (octI_len x) alph1_size
theorem sp_g2 (w : World) (x : Int) (t t2 t3 : Tok) : Spec w 1 121 [.bytes (byteArr (octI x)) t, .int 6 t2, .str alph2 t3] [] (fun _ => True) (fun _ _ r => ∃ t', r = .str (strOf (g2 x)) t') :=
  sg6 w _ alph2 (octI x) t t2 t3 (KBa.ints_make (octI_in x)) (octI_in x) (octI_len x) alph2_size
theorem sp_g3 (w : World) (x : Int) (t t2 t3 : Tok) : Spec w 1 121 [.bytes (byteArr (octI x)) t, .int 6 t2, .str alph3 t3] [] (fun _ => True) (fun _ _ r => ∃ t', r = .str (strOf (g3 x)) t') :=
  sg6 w _ alph3 (octI x) t t2 t3 (KBa.ints_make (octI_in x)) (octI_in x) (octI_len x) alph3_size
theorem sp_w1 (w : World) (x : Int) (t : Tok) : Spec w 1 135 [.bytes (byteArr (octI x)) t] [] (fun _ => True) (fun _ _ r => ∃ t', r = .int (w1 x) t') :=
  sp_ends w _ (octI x) t (KBa.ints_make (octI_in x)) (octI_len x)
theorem sp_w2 (w : World) (x : Int) (t t2 : Tok) : Spec w 1 128 [.str (strOf (g2 x)) t, .str order2 t2] [] (fun _ => True) (fun _ _ r => ∃ t', r = .int (w2 x) t') :=
  sp_weight w (g2 x) order2 rk2 t t2 (sig6_len _ _) (fun c hc => ⟨_, _, ranks2 c (g2_mem x c hc), rfl⟩) (fun c hc => ⟨Int.natCast_nonneg _, by have := rk2_lt c (g2_mem x c hc); simp only [rk2]; omega⟩)
theorem sp_w3 (w : World) (x : Int) (t t2 : Tok) : Spec w 1 128 [.str (strOf (g3 x)) t, .str order3 t2] [] (fun _ => True) (fun _ _ r => ∃ t', r = .int (w3 x) t') :=
  sp_weight w (g3 x) order3 rk3 t t2 (sig6_len _ _) (fun c hc => ⟨_, _, ranks3 c (g3_mem x c hc), rfl⟩) (fun c hc => ⟨Int.natCast_nonneg _, by have := rk3_lt c (g3_mem x c hc); simp only [rk3]; omega⟩)
end Mine
end

section
open PySem PySem.W PyProof.Rows PySem.Calls
set_option maxRecDepth 100000
set_option maxHeartbeats 8000000
set_option linter.unusedSimpArgs false
namespace Mine
/-- the head leaves its own lines switched on: off again -/
theorem offP5 : True := by w_top off; trivial

abbrev tupO (vs : List Value) : Obj := { cls := .type "tuple", data := .seq vs.toArray }
/-- a row: what the three encoders write -/
def RowAt (h h' : Heap) (n : Int) (r : Value) : Prop := ∃ a t1 t2 t3, r = .ref a ∧ h.get? a = none ∧ h'.get? a = some (tupO [.bytes (hexB (octI (n.fmod 16))) t1, .bytes (byteArr (b64I (octI (n.fdiv 16)))) t2, .bytes (trOf urlTab (byteArr (b64I (octI (n.fdiv 7))))) t3])
/-- the law's own: what ought to be written, and its weights -/
def OwnAt (h h' : Heap) (n : Int) (r : Value) : Prop := ∃ a b c t1 t2 t3 u1 u2 u3, r = .ref a ∧ h.get? a = none ∧ h.get? b = none ∧ h.get? c = none ∧ h'.get? a = some (tupO [.ref b, .ref c]) ∧
  h'.get? b = some (tupO [.str (strOf (g1 (n.fmod 16))) t1, .str (strOf (g2 (n.fdiv 16))) t2, .str (strOf (g3 (n.fdiv 7))) t3]) ∧ h'.get? c = some (tupO [.int (w1 (n.fmod 16)) u1, .int (w2 (n.fdiv 16)) u2, .int (w3 (n.fdiv 7)) u3])
theorem sp_row (w : World) (n : Int) (t : Tok) : Spec w 8 142 [.int n t] [] (fun _ => True) (fun h h' r => RowAt h h' n r) := by
  intro mean mg mb dp un gd base outer s Q E B X T hd hu hp ret
  k_dflt (refine' enter (binds := [(Str.ofString "n", .int n t)]) X T ?ho ?hcd ?hroom ?hbind ?hloc ?_ ?c2 ?c3 ?c4 ?c5)
  case ho => k_is
  case hcd => k_is
  case hroom => exact Nat.lt_of_le_of_lt (Nat.le_add_right _ _) hd
  case hbind => exact BindsTo.of_eq rfl
  case hloc => exact locs rfl
  case c2 => rfl
  case c3 => rfl
  case c4 => rfl
  case c5 => decide
  intro L h₁ F N
  (try dsimp only)
  (try k_fold)
  w_strict (repeat' (first
      | (k_unfold; (try dsimp only))
      | (k_end; wrow_close)
      | with_reducible (k_here; (with_reducible show wpAny _ _ (call (Value.ref 121) [_, Value.int 6 _, _]) _ _ _); k_dflt (refine' useA (sp_g3 _ _ _ _ _) ?_; intro r' h' tk' F' N' K' P'; obtain ⟨t9, e9⟩ := P'; subst e9; (try k_sweep); (try dsimp only); (try k_fold)))
      | with_reducible (k_here; (with_reducible show wpAny _ _ (call (Value.ref 121) [_, Value.int 6 _, _]) _ _ _); k_dflt (refine' useA (sp_g2 _ _ _ _ _) ?_; intro r' h' tk' F' N' K' P'; obtain ⟨t9, e9⟩ := P'; subst e9; (try k_sweep); (try dsimp only); (try k_fold)))
      | with_reducible (k_here; (with_reducible show wpAny _ _ (call (Value.ref 121) [_, Value.int 4 _, _]) _ _ _); k_dflt (refine' useA (sp_g1 _ _ _ _ _) ?_; intro r' h' tk' F' N' K' P'; obtain ⟨t9, e9⟩ := P'; subst e9; (try k_sweep); (try dsimp only); (try k_fold)))
      | with_reducible (k_here; (with_reducible show wpAny _ _ (call (Value.ref 128) [Value.str (strOf (g3 _)) _, _]) _ _ _); k_dflt (refine' useA (sp_w3 _ _ _ _) ?_; intro r' h' tk' F' N' K' P'; obtain ⟨t9, e9⟩ := P'; subst e9; (try k_sweep); (try dsimp only); (try k_fold)))
      | with_reducible (k_here; (with_reducible show wpAny _ _ (call (Value.ref 128) [Value.str (strOf (g2 _)) _, _]) _ _ _); k_dflt (refine' useA (sp_w2 _ _ _ _) ?_; intro r' h' tk' F' N' K' P'; obtain ⟨t9, e9⟩ := P'; subst e9; (try k_sweep); (try dsimp only); (try k_fold)))
      | with_reducible ((with_reducible show wpAny _ _ (call (Value.ref _) _ _) _ _ _); k_here; k_dflt (refine' useA (sp_w1 _ _ _) ?_; intro r' h' tk' F' N' K' P'; obtain ⟨t9, e9⟩ := P'; subst e9; (try k_sweep); (try dsimp only); (try k_fold)))
      | with_reducible ((with_reducible show wpAny _ _ (call (Value.ref _) _ _) _ _ _); k_here; k_dflt (refine' useA (sp_url _ _ _ (octI_in _) (octI_len _)) ?_; intro r' h' tk' F' N' K' P'; obtain ⟨t9, e9⟩ := P'; subst e9; (try k_sweep); (try dsimp only); (try k_fold)))
      | with_reducible ((with_reducible show wpAny _ _ (call (Value.ref _) _ _) _ _ _); k_here; k_dflt (refine' useA (sp_std _ _ _ (octI_in _) (octI_len _)) ?_; intro r' h' tk' F' N' K' P'; obtain ⟨t9, e9⟩ := P'; subst e9; (try k_sweep); (try dsimp only); (try k_fold)))
      | with_reducible ((with_reducible show wpAny _ _ (call (Value.ref _) _ _) _ _ _); k_here; k_dflt (refine' useA (sp_b16 _ _ _ (octI_size _)) ?_; intro r' h' tk' F' N' K' P'; obtain ⟨t9, e9⟩ := P'; subst e9; (try k_sweep); (try dsimp only); (try k_fold)))
      | with_reducible ((with_reducible show wpAny _ _ (call (Value.ref _) _ _) _ _ _); k_here; k_dflt (refine' useA (sp_octets _ _ _) ?_; intro r' h' tk' F' N' K' P'; obtain ⟨t9, e9⟩ := P'; subst e9; (try k_sweep); (try dsimp only); (try k_fold)))
      | with_reducible (k_here; (with_reducible refine meth_encode ?_))
      | with_reducible (k_here; (with_reducible show wpAny _ _ (call (Value.builtin "str.encode") [Value.str _ _, Value.str _ _]) _ _ _); (refine call_encode (by (first | assumption | exact hexOf_low _)) (by (first | assumption | omega | (simp only [List.size_toArray, hexOf_length, Array.length_toList]; omega))) ?_); intro t' k')
      | with_reducible (k_here; (with_reducible show wpAny _ _ (call (Value.builtin "bytes.translate") [Value.bytes _ _, Value.bytes _ _]) _ _ _); (refine call_translate (by decide) (by (first | assumption | omega | (simp only [byteArr_size]; omega))) ?_); intro t' k')
      | with_reducible (k_here; (with_reducible show wpAny _ _ (call (Value.builtin "bytes.upper") [Value.bytes _ _]) _ _ _); (refine call_upper (by (first | assumption | omega | (simp only [Array.size_map, List.size_toArray, hexOf_length, Array.length_toList]; omega))) ?_); intro t' k')
      | with_reducible (k_here; (with_reducible show wpAny _ _ (call (Value.builtin "bytes.hex") [Value.bytes _ _]) _ _ _); (refine call_hex (by (first | assumption | omega)) ?_); intro t' k')
      | with_reducible (k_here; first | (with_reducible refine meth_hex ?_) | (with_reducible refine meth_upper ?_) | (with_reducible refine meth_translate ?_))
      | with_reducible (k_here; (with_reducible show wpAny _ _ (call (Value.type "bytes") [Value.ref _]) _ _ _); k_dflt (refine' bytes_push ?kbaFx5 ?kbaNx5 ?kbahx5 ?kbalx5 ?kbaix5 ?kbarx5 ?kbanx5 ?_; (case kbaFx5 | kbaNx5 => k_asm); (case kbahx5 => rfl); (case kbalx5 => k_mem); (case kbaix5 => ((repeat apply ia_push); exact ia_nil)); (case kbarx5 => ((repeat (refine' in_push ?_ ?kax5 ?kbx5; (case kax5 | kbx5 => first | with_reducible assumption | decide))); exact in_nil)); (case kbanx5 => exact Nat.le_of_ble_eq_true rfl)); intro h' t' k' F' N')
      | with_reducible ((with_reducible show wpAny _ _ (storeName _ _ _) _ _ _); k_here; k_dflt (first | (refine' storeI ?Fx4 ?Nx4 ?_ ?ax4 ?bx4; (case Fx4 | Nx4 => k_asm); (case ax4 | bx4 => rfl); k_whole; intro h' t' tk' F' N'; (try k_sweep); (try dsimp only)) | (refine' storeS ?Fx4 ?Nx4 ?_ ?ax4 ?bx4; (case Fx4 | Nx4 => k_asm); (case ax4 | bx4 => rfl); k_whole; intro h' t' tk' F' N'; (try k_sweep); (try dsimp only)) | (refine' storeB ?Fx4 ?Nx4 ?_ ?ax4 ?bx4; (case Fx4 | Nx4 => k_asm); (case ax4 | bx4 => rfl); k_whole; intro h' t' tk' F' N'; (try k_sweep); (try dsimp only))))
      | with_reducible ((with_reducible show wpAny _ _ (binaryOp Operator.LShift (Value.int _ _) (Value.int _ _)) _ _ _); k_here; (with_reducible refine' lshift_int_small ?kb1x3 ?kb2x3 ?kb3x3 ?_); (case kb1x3 | kb2x3 => decide); (case kb3x3 => ((try simp only [bitAnd_m16, bitAnd_m2, bitAnd_m4]); omega)))
      | with_reducible ((with_reducible show wpAny _ _ (pyIter (Value.bytes _ _)) _ _ _); (with_reducible show wpAny _ _ (pyIter (Value.bytes _ _)) (fun it s₂ => LoopAtV _ _ _ _ _ _ _ _ _ it s₂) _ _); k_here; k_bytesUnr)
      | with_reducible (k_here; (with_reducible show wpAny _ _ (call (Value.type "type") [Value.bytes _ _]) _ _ _); refine call_type_of (typeIs_bytes _ _ _) (by decide) ?_)
      | with_reducible (k_here; (with_reducible refine floordiv_int (p256_ne ?kbex0) ?_ (Or.inl (PyProof.noPylong_small (p256_small ?kbpx0)))); (case kbex0 | kbpx0 => omega))
      | walk1
      | (dsimp only)
      | (leave1; walk_say "STEP leave1"; try dsimp only)
      | fail "no step"))
  all_goals (rename News _ _ _ _ => N9; exact ret _ _ _ (Fr.keep (by assumption)) ⟨_, _, _, _, rfl, (N9 _ (by k_mem)).2.2, (N9 _ (by k_mem)).1⟩)
theorem sp_own (w : World) (n : Int) (t : Tok) : Spec w 8 149 [.int n t] [] (fun _ => True) (fun h h' r => OwnAt h h' n r) := by
  intro mean mg mb dp un gd base outer s Q E B X T hd hu hp ret
  k_dflt (refine' enter (binds := [(Str.ofString "n", .int n t)]) X T ?ho ?hcd ?hroom ?hbind ?hloc ?_ ?c2 ?c3 ?c4 ?c5)
  case ho => k_is
  case hcd => k_is
  case hroom => exact Nat.lt_of_le_of_lt (Nat.le_add_right _ _) hd
  case hbind => exact BindsTo.of_eq rfl
  case hloc => exact locs rfl
  case c2 => rfl
  case c3 => rfl
  case c4 => rfl
  case c5 => decide
  intro L h₁ F N
  (try dsimp only)
  (try k_fold)
  w_strict (repeat' (first
      | (k_unfold; (try dsimp only))
      | (k_end; wrow_close)
      | with_reducible (k_here; (with_reducible show wpAny _ _ (call (Value.ref 121) [_, Value.int 6 _, _]) _ _ _); k_dflt (refine' useA (sp_g3 _ _ _ _ _) ?_; intro r' h' tk' F' N' K' P'; obtain ⟨t9, e9⟩ := P'; subst e9; (try k_sweep); (try dsimp only); (try k_fold)))
      | with_reducible (k_here; (with_reducible show wpAny _ _ (call (Value.ref 121) [_, Value.int 6 _, _]) _ _ _); k_dflt (refine' useA (sp_g2 _ _ _ _ _) ?_; intro r' h' tk' F' N' K' P'; obtain ⟨t9, e9⟩ := P'; subst e9; (try k_sweep); (try dsimp only); (try k_fold)))
      | with_reducible (k_here; (with_reducible show wpAny _ _ (call (Value.ref 121) [_, Value.int 4 _, _]) _ _ _); k_dflt (refine' useA (sp_g1 _ _ _ _ _) ?_; intro r' h' tk' F' N' K' P'; obtain ⟨t9, e9⟩ := P'; subst e9; (try k_sweep); (try dsimp only); (try k_fold)))
      | with_reducible (k_here; (with_reducible show wpAny _ _ (call (Value.ref 128) [Value.str (strOf (g3 _)) _, _]) _ _ _); k_dflt (refine' useA (sp_w3 _ _ _ _) ?_; intro r' h' tk' F' N' K' P'; obtain ⟨t9, e9⟩ := P'; subst e9; (try k_sweep); (try dsimp only); (try k_fold)))
      | with_reducible (k_here; (with_reducible show wpAny _ _ (call (Value.ref 128) [Value.str (strOf (g2 _)) _, _]) _ _ _); k_dflt (refine' useA (sp_w2 _ _ _ _) ?_; intro r' h' tk' F' N' K' P'; obtain ⟨t9, e9⟩ := P'; subst e9; (try k_sweep); (try dsimp only); (try k_fold)))
      | with_reducible ((with_reducible show wpAny _ _ (call (Value.ref _) _ _) _ _ _); k_here; k_dflt (refine' useA (sp_w1 _ _ _) ?_; intro r' h' tk' F' N' K' P'; obtain ⟨t9, e9⟩ := P'; subst e9; (try k_sweep); (try dsimp only); (try k_fold)))
      | with_reducible ((with_reducible show wpAny _ _ (call (Value.ref _) _ _) _ _ _); k_here; k_dflt (refine' useA (sp_url _ _ _ (octI_in _) (octI_len _)) ?_; intro r' h' tk' F' N' K' P'; obtain ⟨t9, e9⟩ := P'; subst e9; (try k_sweep); (try dsimp only); (try k_fold)))
      | with_reducible ((with_reducible show wpAny _ _ (call (Value.ref _) _ _) _ _ _); k_here; k_dflt (refine' useA (sp_std _ _ _ (octI_in _) (octI_len _)) ?_; intro r' h' tk' F' N' K' P'; obtain ⟨t9, e9⟩ := P'; subst e9; (try k_sweep); (try dsimp only); (try k_fold)))
      | with_reducible ((with_reducible show wpAny _ _ (call (Value.ref _) _ _) _ _ _); k_here; k_dflt (refine' useA (sp_b16 _ _ _ (octI_size _)) ?_; intro r' h' tk' F' N' K' P'; obtain ⟨t9, e9⟩ := P'; subst e9; (try k_sweep); (try dsimp only); (try k_fold)))
      | with_reducible ((with_reducible show wpAny _ _ (call (Value.ref _) _ _) _ _ _); k_here; k_dflt (refine' useA (sp_octets _ _ _) ?_; intro r' h' tk' F' N' K' P'; obtain ⟨t9, e9⟩ := P'; subst e9; (try k_sweep); (try dsimp only); (try k_fold)))
      | with_reducible (k_here; (with_reducible refine meth_encode ?_))
      | with_reducible (k_here; (with_reducible show wpAny _ _ (call (Value.builtin "str.encode") [Value.str _ _, Value.str _ _]) _ _ _); (refine call_encode (by (first | assumption | exact hexOf_low _)) (by (first | assumption | omega | (simp only [List.size_toArray, hexOf_length, Array.length_toList]; omega))) ?_); intro t' k')
      | with_reducible (k_here; (with_reducible show wpAny _ _ (call (Value.builtin "bytes.translate") [Value.bytes _ _, Value.bytes _ _]) _ _ _); (refine call_translate (by decide) (by (first | assumption | omega | (simp only [byteArr_size]; omega))) ?_); intro t' k')
      | with_reducible (k_here; (with_reducible show wpAny _ _ (call (Value.builtin "bytes.upper") [Value.bytes _ _]) _ _ _); (refine call_upper (by (first | assumption | omega | (simp only [Array.size_map, List.size_toArray, hexOf_length, Array.length_toList]; omega))) ?_); intro t' k')
      | with_reducible (k_here; (with_reducible show wpAny _ _ (call (Value.builtin "bytes.hex") [Value.bytes _ _]) _ _ _); (refine call_hex (by (first | assumption | omega)) ?_); intro t' k')
      | with_reducible (k_here; first | (with_reducible refine meth_hex ?_) | (with_reducible refine meth_upper ?_) | (with_reducible refine meth_translate ?_))
      | with_reducible (k_here; (with_reducible show wpAny _ _ (call (Value.type "bytes") [Value.ref _]) _ _ _); k_dflt (refine' bytes_push ?kbaFx5 ?kbaNx5 ?kbahx5 ?kbalx5 ?kbaix5 ?kbarx5 ?kbanx5 ?_; (case kbaFx5 | kbaNx5 => k_asm); (case kbahx5 => rfl); (case kbalx5 => k_mem); (case kbaix5 => ((repeat apply ia_push); exact ia_nil)); (case kbarx5 => ((repeat (refine' in_push ?_ ?kax5 ?kbx5; (case kax5 | kbx5 => first | with_reducible assumption | decide))); exact in_nil)); (case kbanx5 => exact Nat.le_of_ble_eq_true rfl)); intro h' t' k' F' N')
      | with_reducible ((with_reducible show wpAny _ _ (storeName _ _ _) _ _ _); k_here; k_dflt (first | (refine' storeI ?Fx4 ?Nx4 ?_ ?ax4 ?bx4; (case Fx4 | Nx4 => k_asm); (case ax4 | bx4 => rfl); k_whole; intro h' t' tk' F' N'; (try k_sweep); (try dsimp only)) | (refine' storeS ?Fx4 ?Nx4 ?_ ?ax4 ?bx4; (case Fx4 | Nx4 => k_asm); (case ax4 | bx4 => rfl); k_whole; intro h' t' tk' F' N'; (try k_sweep); (try dsimp only)) | (refine' storeB ?Fx4 ?Nx4 ?_ ?ax4 ?bx4; (case Fx4 | Nx4 => k_asm); (case ax4 | bx4 => rfl); k_whole; intro h' t' tk' F' N'; (try k_sweep); (try dsimp only))))
      | with_reducible ((with_reducible show wpAny _ _ (binaryOp Operator.LShift (Value.int _ _) (Value.int _ _)) _ _ _); k_here; (with_reducible refine' lshift_int_small ?kb1x3 ?kb2x3 ?kb3x3 ?_); (case kb1x3 | kb2x3 => decide); (case kb3x3 => ((try simp only [bitAnd_m16, bitAnd_m2, bitAnd_m4]); omega)))
      | with_reducible ((with_reducible show wpAny _ _ (pyIter (Value.bytes _ _)) _ _ _); (with_reducible show wpAny _ _ (pyIter (Value.bytes _ _)) (fun it s₂ => LoopAtV _ _ _ _ _ _ _ _ _ it s₂) _ _); k_here; k_bytesUnr)
      | with_reducible (k_here; (with_reducible show wpAny _ _ (call (Value.type "type") [Value.bytes _ _]) _ _ _); refine call_type_of (typeIs_bytes _ _ _) (by decide) ?_)
      | with_reducible (k_here; (with_reducible refine floordiv_int (p256_ne ?kbex0) ?_ (Or.inl (PyProof.noPylong_small (p256_small ?kbpx0)))); (case kbex0 | kbpx0 => omega))
      | walk1
      | (dsimp only)
      | (leave1; walk_say "STEP leave1"; try dsimp only)
      | fail "no step"))
  all_goals (rename News _ _ _ _ => N9; exact ret _ _ _ (Fr.keep (by assumption)) ⟨_, _, _, _, _, _, _, _, _, rfl, (N9 _ (.head _)).2.2, (N9 _ (.tail _ (.head _))).2.2, (N9 _ (.tail _ (.tail _ (.head _)))).2.2, (N9 _ (.head _)).1, (N9 _ (.tail _ (.head _))).1, (N9 _ (.tail _ (.tail _ (.head _)))).1⟩)
end Mine
end

section
open PySem PySem.W PyProof.Rows PySem.Calls
set_option maxRecDepth 100000
set_option maxHeartbeats 8000000
set_option linter.unusedSimpArgs false
namespace Mine
/-- the head leaves its own lines switched on: off again -/
theorem offP6 : True := by w_top off; trivial

inductive All2 {α β : Type} (R : α → β → Prop) : List α → List β → Prop
  | nil : All2 R [] []
  | cons {a : α} {b : β} {as : List α} {bs : List β} : R a b → All2 R as bs → All2 R (a :: as) (b :: bs)
/-- sort keys as they lie: a tuple of pairs -/
def KeysAt (h h' : Heap) (ks : List (Int × Int)) (r : Value) : Prop := ∃ (a : Addr) (refs : List Addr), r = .ref a ∧ h.get? a = none ∧ h'.get? a = some (tupO (refs.map Value.ref)) ∧ All2 (fun (b : Addr) (k : Int × Int) => h.get? b = none ∧ ∃ u u', h'.get? b = some (tupO [.int k.1 u, .int k.2 u'])) refs ks
def KeysOk (ks : List (Int × Int)) : Prop := ks.length ≤ 3 ∧ ∀ k ∈ ks, 0 ≤ k.1 ∧ k.1 < 3 ∧ (k.2 = 1 ∨ k.2 = -1)
theorem key_ok (y z : Int) : 0 ≤ y.fmod 3 ∧ y.fmod 3 < 3 ∧ (1 - 2 * z.fmod 2 = 1 ∨ 1 - 2 * z.fmod 2 = -1) := by
  have h1 : 0 ≤ y.fmod 3 := Int.fmod_nonneg_of_pos _ (by decide)
  have h2 : y.fmod 3 < 3 := Int.fmod_lt_of_pos _ (by decide)
  have h3 : 0 ≤ z.fmod 2 := Int.fmod_nonneg_of_pos _ (by decide)
  have h4 : z.fmod 2 < 2 := Int.fmod_lt_of_pos _ (by decide)
  omega
theorem keys_nil : KeysOk [] := ⟨by decide, fun _ h => nomatch h⟩
theorem keys_cons {y z : Int} {r : List (Int × Int)} (hl : r.length ≤ 2) (h : KeysOk r) : KeysOk ((y.fmod 3, 1 - 2 * z.fmod 2) :: r) := ⟨by simp only [List.length_cons]; omega, fun k hk => by
  rcases List.mem_cons.mp hk with rfl | hk
  · exact key_ok y z
  · exact h.2 k hk⟩
theorem rs_small {b : Int} {n : Nat} (h : b = n) (hn : n ≤ 3) : Builtin.Range.small 0 b 1 = true := by
  subst h
  have : n = 0 ∨ n = 1 ∨ n = 2 ∨ n = 3 := by omega
  rcases this with rfl | rfl | rfl | rfl <;> decide
theorem rs_size {b : Int} {n : Nat} (h : b = n) (hn : n ≤ 3) : Builtin.Range.rangeSize 0 b 1 = (n : Int) := by
  subst h
  have : n = 0 ∨ n = 1 ∨ n = 2 ∨ n = 3 := by omega
  rcases this with rfl | rfl | rfl | rfl <;> decide
local macro_rules | `(tactic| k_ne) => `(tactic| (refine neN ?_; (try dsimp only); simp only [*, ne_eq, not_false_eq_true]; done))
local macro_rules | `(tactic| walk_at "CompSrc") => `(tactic| (k_here; k_dflt (refine' LCg.CompSrc.range (n := ?n) ?hh ?F ?N ?hr ?hsm ?hn ?hsz ?_; (case hh => rfl); (case F | N => k_asm); (case hr => assumption); (case hsm => exact rs_small (by assumption) (by decide)); (case hn => exact rs_size (by assumption) (by decide)); (case hsz => decide)); intro g'))
theorem sp_keys1 (w : World) (x : Int) (t : Tok) (h0 : 0 ≤ x) (h1 : x < 648) (hn : 3 - x.fdiv 216 = ((1 : Nat) : Int)) : Spec w 1 154 [.int x t] [] (fun _ => True) (fun h h' r => ∃ ks, KeysOk ks ∧ KeysAt h h' ks r) := by
  intro mean mg mb dp un gd base outer s Q E B X T hd hu hp ret
  k_dflt (refine' enterC (binds := [(Str.ofString "s", .int x t)]) X T ?ho ?hcd ?hroom ?hbind ?hloc ?hnd ?_ ?c2 ?c3 ?c4)
  case ho => k_is
  case hcd => k_is
  case hroom => exact Nat.lt_of_le_of_lt (Nat.le_add_right _ _) hd
  case hbind => exact BindsTo.of_eq rfl
  case hloc => exact rfl
  case hnd => decide +kernel
  case c2 => rfl
  case c3 => rfl
  case c4 => rfl
  intro L h₁ tk cells F N Y
  k_cells Y
  (try simp only [List.cons_append, List.nil_append] at N)
  (try dsimp only)
  (try k_fold)
  w_strict (repeat' (first
      | (k_unfold; (try dsimp only))
      | (k_end; wrow_close)
      | with_reducible (k_here; (with_reducible refine meth_encode ?_))
      | with_reducible (k_here; (with_reducible show wpAny _ _ (call (Value.builtin "str.encode") [Value.str _ _, Value.str _ _]) _ _ _); (refine call_encode (by (first | assumption | exact hexOf_low _)) (by (first | assumption | omega | (simp only [List.size_toArray, hexOf_length, Array.length_toList]; omega))) ?_); intro t' k')
      | with_reducible (k_here; (with_reducible show wpAny _ _ (call (Value.builtin "bytes.translate") [Value.bytes _ _, Value.bytes _ _]) _ _ _); (refine call_translate (by decide) (by (first | assumption | omega | (simp only [byteArr_size]; omega))) ?_); intro t' k')
      | with_reducible (k_here; (with_reducible show wpAny _ _ (call (Value.builtin "bytes.upper") [Value.bytes _ _]) _ _ _); (refine call_upper (by (first | assumption | omega | (simp only [Array.size_map, List.size_toArray, hexOf_length, Array.length_toList]; omega))) ?_); intro t' k')
      | with_reducible (k_here; (with_reducible show wpAny _ _ (call (Value.builtin "bytes.hex") [Value.bytes _ _]) _ _ _); (refine call_hex (by (first | assumption | omega)) ?_); intro t' k')
      | with_reducible (k_here; first | (with_reducible refine meth_hex ?_) | (with_reducible refine meth_upper ?_) | (with_reducible refine meth_translate ?_))
      | with_reducible (k_here; (with_reducible show wpAny _ _ (call (Value.type "bytes") [Value.ref _]) _ _ _); k_dflt (refine' bytes_push ?kbaFx5 ?kbaNx5 ?kbahx5 ?kbalx5 ?kbaix5 ?kbarx5 ?kbanx5 ?_; (case kbaFx5 | kbaNx5 => k_asm); (case kbahx5 => rfl); (case kbalx5 => k_mem); (case kbaix5 => ((repeat apply ia_push); exact ia_nil)); (case kbarx5 => ((repeat (refine' in_push ?_ ?kax5 ?kbx5; (case kax5 | kbx5 => first | with_reducible assumption | decide))); exact in_nil)); (case kbanx5 => exact Nat.le_of_ble_eq_true rfl)); intro h' t' k' F' N')
      | with_reducible ((with_reducible show wpAny _ _ (storeName _ _ _) _ _ _); k_here; k_dflt (first | (refine' storeI ?Fx4 ?Nx4 ?_ ?ax4 ?bx4; (case Fx4 | Nx4 => k_asm); (case ax4 | bx4 => rfl); k_whole; intro h' t' tk' F' N'; (try k_sweep); (try dsimp only)) | (refine' storeS ?Fx4 ?Nx4 ?_ ?ax4 ?bx4; (case Fx4 | Nx4 => k_asm); (case ax4 | bx4 => rfl); k_whole; intro h' t' tk' F' N'; (try k_sweep); (try dsimp only)) | (refine' storeB ?Fx4 ?Nx4 ?_ ?ax4 ?bx4; (case Fx4 | Nx4 => k_asm); (case ax4 | bx4 => rfl); k_whole; intro h' t' tk' F' N'; (try k_sweep); (try dsimp only))))
      | with_reducible ((with_reducible show wpAny _ _ (binaryOp Operator.LShift (Value.int _ _) (Value.int _ _)) _ _ _); k_here; (with_reducible refine' lshift_int_small ?kb1x3 ?kb2x3 ?kb3x3 ?_); (case kb1x3 | kb2x3 => decide); (case kb3x3 => ((try simp only [bitAnd_m16, bitAnd_m2, bitAnd_m4]); omega)))
      | with_reducible ((with_reducible show wpAny _ _ (pyIter (Value.bytes _ _)) _ _ _); (with_reducible show wpAny _ _ (pyIter (Value.bytes _ _)) (fun it s₂ => LoopAtV _ _ _ _ _ _ _ _ _ it s₂) _ _); k_here; k_bytesUnr)
      | with_reducible (k_here; (with_reducible show wpAny _ _ (call (Value.type "type") [Value.bytes _ _]) _ _ _); refine call_type_of (typeIs_bytes _ _ _) (by decide) ?_)
      | with_reducible (k_here; (with_reducible refine floordiv_int (p256_ne ?kbex0) ?_ (Or.inl (PyProof.noPylong_small (p256_small ?kbpx0)))); (case kbex0 | kbpx0 => omega))
      | walk1
      | (dsimp only)
      | (leave1; walk_say "STEP leave1"; try dsimp only)
      | fail "no step"))
  all_goals (rename News _ _ _ _ => N9; exact ret _ _ _ (Fr.keep (by assumption)) ⟨[(_, _)], (keys_cons (Nat.le_of_ble_eq_true rfl) keys_nil), _, [_], rfl, (N9 _ (.head _)).2.2, (N9 _ (.head _)).1, (.cons ⟨(N9 _ (.tail _ (.tail _ (.head _)))).2.2, _, _, (N9 _ (.tail _ (.tail _ (.head _)))).1⟩ .nil)⟩)
theorem sp_keys2 (w : World) (x : Int) (t : Tok) (h0 : 0 ≤ x) (h1 : x < 648) (hn : 3 - x.fdiv 216 = ((2 : Nat) : Int)) : Spec w 1 154 [.int x t] [] (fun _ => True) (fun h h' r => ∃ ks, KeysOk ks ∧ KeysAt h h' ks r) := by
  intro mean mg mb dp un gd base outer s Q E B X T hd hu hp ret
  k_dflt (refine' enterC (binds := [(Str.ofString "s", .int x t)]) X T ?ho ?hcd ?hroom ?hbind ?hloc ?hnd ?_ ?c2 ?c3 ?c4)
  case ho => k_is
  case hcd => k_is
  case hroom => exact Nat.lt_of_le_of_lt (Nat.le_add_right _ _) hd
  case hbind => exact BindsTo.of_eq rfl
  case hloc => exact rfl
  case hnd => decide +kernel
  case c2 => rfl
  case c3 => rfl
  case c4 => rfl
  intro L h₁ tk cells F N Y
  k_cells Y
  (try simp only [List.cons_append, List.nil_append] at N)
  (try dsimp only)
  (try k_fold)
  w_strict (repeat' (first
      | (k_unfold; (try dsimp only))
      | (k_end; wrow_close)
      | with_reducible (k_here; (with_reducible refine meth_encode ?_))
      | with_reducible (k_here; (with_reducible show wpAny _ _ (call (Value.builtin "str.encode") [Value.str _ _, Value.str _ _]) _ _ _); (refine call_encode (by (first | assumption | exact hexOf_low _)) (by (first | assumption | omega | (simp only [List.size_toArray, hexOf_length, Array.length_toList]; omega))) ?_); intro t' k')
      | with_reducible (k_here; (with_reducible show wpAny _ _ (call (Value.builtin "bytes.translate") [Value.bytes _ _, Value.bytes _ _]) _ _ _); (refine call_translate (by decide) (by (first | assumption | omega | (simp only [byteArr_size]; omega))) ?_); intro t' k')
      | with_reducible (k_here; (with_reducible show wpAny _ _ (call (Value.builtin "bytes.upper") [Value.bytes _ _]) _ _ _); (refine call_upper (by (first | assumption | omega | (simp only [Array.size_map, List.size_toArray, hexOf_length, Array.length_toList]; omega))) ?_); intro t' k')
      | with_reducible (k_here; (with_reducible show wpAny _ _ (call (Value.builtin "bytes.hex") [Value.bytes _ _]) _ _ _); (refine call_hex (by (first | assumption | omega)) ?_); intro t' k')
      | with_reducible (k_here; first | (with_reducible refine meth_hex ?_) | (with_reducible refine meth_upper ?_) | (with_reducible refine meth_translate ?_))
      | with_reducible (k_here; (with_reducible show wpAny _ _ (call (Value.type "bytes") [Value.ref _]) _ _ _); k_dflt (refine' bytes_push ?kbaFx5 ?kbaNx5 ?kbahx5 ?kbalx5 ?kbaix5 ?kbarx5 ?kbanx5 ?_; (case kbaFx5 | kbaNx5 => k_asm); (case kbahx5 => rfl); (case kbalx5 => k_mem); (case kbaix5 => ((repeat apply ia_push); exact ia_nil)); (case kbarx5 => ((repeat (refine' in_push ?_ ?kax5 ?kbx5; (case kax5 | kbx5 => first | with_reducible assumption | decide))); exact in_nil)); (case kbanx5 => exact Nat.le_of_ble_eq_true rfl)); intro h' t' k' F' N')
      | with_reducible ((with_reducible show wpAny _ _ (storeName _ _ _) _ _ _); k_here; k_dflt (first | (refine' storeI ?Fx4 ?Nx4 ?_ ?ax4 ?bx4; (case Fx4 | Nx4 => k_asm); (case ax4 | bx4 => rfl); k_whole; intro h' t' tk' F' N'; (try k_sweep); (try dsimp only)) | (refine' storeS ?Fx4 ?Nx4 ?_ ?ax4 ?bx4; (case Fx4 | Nx4 => k_asm); (case ax4 | bx4 => rfl); k_whole; intro h' t' tk' F' N'; (try k_sweep); (try dsimp only)) | (refine' storeB ?Fx4 ?Nx4 ?_ ?ax4 ?bx4; (case Fx4 | Nx4 => k_asm); (case ax4 | bx4 => rfl); k_whole; intro h' t' tk' F' N'; (try k_sweep); (try dsimp only))))
      | with_reducible ((with_reducible show wpAny _ _ (binaryOp Operator.LShift (Value.int _ _) (Value.int _ _)) _ _ _); k_here; (with_reducible refine' lshift_int_small ?kb1x3 ?kb2x3 ?kb3x3 ?_); (case kb1x3 | kb2x3 => decide); (case kb3x3 => ((try simp only [bitAnd_m16, bitAnd_m2, bitAnd_m4]); omega)))
      | with_reducible ((with_reducible show wpAny _ _ (pyIter (Value.bytes _ _)) _ _ _); (with_reducible show wpAny _ _ (pyIter (Value.bytes _ _)) (fun it s₂ => LoopAtV _ _ _ _ _ _ _ _ _ it s₂) _ _); k_here; k_bytesUnr)
      | with_reducible (k_here; (with_reducible show wpAny _ _ (call (Value.type "type") [Value.bytes _ _]) _ _ _); refine call_type_of (typeIs_bytes _ _ _) (by decide) ?_)
      | with_reducible (k_here; (with_reducible refine floordiv_int (p256_ne ?kbex0) ?_ (Or.inl (PyProof.noPylong_small (p256_small ?kbpx0)))); (case kbex0 | kbpx0 => omega))
      | walk1
      | (dsimp only)
      | (leave1; walk_say "STEP leave1"; try dsimp only)
      | fail "no step"))
  all_goals (rename News _ _ _ _ => N9; exact ret _ _ _ (Fr.keep (by assumption)) ⟨[(_, _), (_, _)], (keys_cons (Nat.le_of_ble_eq_true rfl) (keys_cons (Nat.le_of_ble_eq_true rfl) keys_nil)), _, [_, _], rfl, (N9 _ (.head _)).2.2, (N9 _ (.head _)).1, (.cons ⟨(N9 _ (.tail _ (.tail _ (.tail _ (.head _))))).2.2, _, _, (N9 _ (.tail _ (.tail _ (.tail _ (.head _))))).1⟩ (.cons ⟨(N9 _ (.tail _ (.tail _ (.head _)))).2.2, _, _, (N9 _ (.tail _ (.tail _ (.head _)))).1⟩ .nil))⟩)
theorem sp_keys3 (w : World) (x : Int) (t : Tok) (h0 : 0 ≤ x) (h1 : x < 648) (hn : 3 - x.fdiv 216 = ((3 : Nat) : Int)) : Spec w 1 154 [.int x t] [] (fun _ => True) (fun h h' r => ∃ ks, KeysOk ks ∧ KeysAt h h' ks r) := by
  intro mean mg mb dp un gd base outer s Q E B X T hd hu hp ret
  k_dflt (refine' enterC (binds := [(Str.ofString "s", .int x t)]) X T ?ho ?hcd ?hroom ?hbind ?hloc ?hnd ?_ ?c2 ?c3 ?c4)
  case ho => k_is
  case hcd => k_is
  case hroom => exact Nat.lt_of_le_of_lt (Nat.le_add_right _ _) hd
  case hbind => exact BindsTo.of_eq rfl
  case hloc => exact rfl
  case hnd => decide +kernel
  case c2 => rfl
  case c3 => rfl
  case c4 => rfl
  intro L h₁ tk cells F N Y
  k_cells Y
  (try simp only [List.cons_append, List.nil_append] at N)
  (try dsimp only)
  (try k_fold)
  w_strict (repeat' (first
      | (k_unfold; (try dsimp only))
      | (k_end; wrow_close)
      | with_reducible (k_here; (with_reducible refine meth_encode ?_))
      | with_reducible (k_here; (with_reducible show wpAny _ _ (call (Value.builtin "str.encode") [Value.str _ _, Value.str _ _]) _ _ _); (refine call_encode (by (first | assumption | exact hexOf_low _)) (by (first | assumption | omega | (simp only [List.size_toArray, hexOf_length, Array.length_toList]; omega))) ?_); intro t' k')
      | with_reducible (k_here; (with_reducible show wpAny _ _ (call (Value.builtin "bytes.translate") [Value.bytes _ _, Value.bytes _ _]) _ _ _); (refine call_translate (by decide) (by (first | assumption | omega | (simp only [byteArr_size]; omega))) ?_); intro t' k')
      | with_reducible (k_here; (with_reducible show wpAny _ _ (call (Value.builtin "bytes.upper") [Value.bytes _ _]) _ _ _); (refine call_upper (by (first | assumption | omega | (simp only [Array.size_map, List.size_toArray, hexOf_length, Array.length_toList]; omega))) ?_); intro t' k')
      | with_reducible (k_here; (with_reducible show wpAny _ _ (call (Value.builtin "bytes.hex") [Value.bytes _ _]) _ _ _); (refine call_hex (by (first | assumption | omega)) ?_); intro t' k')
      | with_reducible (k_here; first | (with_reducible refine meth_hex ?_) | (with_reducible refine meth_upper ?_) | (with_reducible refine meth_translate ?_))
      | with_reducible (k_here; (with_reducible show wpAny _ _ (call (Value.type "bytes") [Value.ref _]) _ _ _); k_dflt (refine' bytes_push ?kbaFx5 ?kbaNx5 ?kbahx5 ?kbalx5 ?kbaix5 ?kbarx5 ?kbanx5 ?_; (case kbaFx5 | kbaNx5 => k_asm); (case kbahx5 => rfl); (case kbalx5 => k_mem); (case kbaix5 => ((repeat apply ia_push); exact ia_nil)); (case kbarx5 => ((repeat (refine' in_push ?_ ?kax5 ?kbx5; (case kax5 | kbx5 => first | with_reducible assumption | decide))); exact in_nil)); (case kbanx5 => exact Nat.le_of_ble_eq_true rfl)); intro h' t' k' F' N')
      | with_reducible ((with_reducible show wpAny _ _ (storeName _ _ _) _ _ _); k_here; k_dflt (first | (refine' storeI ?Fx4 ?Nx4 ?_ ?ax4 ?bx4; (case Fx4 | Nx4 => k_asm); (case ax4 | bx4 => rfl); k_whole; intro h' t' tk' F' N'; (try k_sweep); (try dsimp only)) | (refine' storeS ?Fx4 ?Nx4 ?_ ?ax4 ?bx4; (case Fx4 | Nx4 => k_asm); (case ax4 | bx4 => rfl); k_whole; intro h' t' tk' F' N'; (try k_sweep); (try dsimp only)) | (refine' storeB ?Fx4 ?Nx4 ?_ ?ax4 ?bx4; (case Fx4 | Nx4 => k_asm); (case ax4 | bx4 => rfl); k_whole; intro h' t' tk' F' N'; (try k_sweep); (try dsimp only))))
      | with_reducible ((with_reducible show wpAny _ _ (binaryOp Operator.LShift (Value.int _ _) (Value.int _ _)) _ _ _); k_here; (with_reducible refine' lshift_int_small ?kb1x3 ?kb2x3 ?kb3x3 ?_); (case kb1x3 | kb2x3 => decide); (case kb3x3 => ((try simp only [bitAnd_m16, bitAnd_m2, bitAnd_m4]); omega)))
      | with_reducible ((with_reducible show wpAny _ _ (pyIter (Value.bytes _ _)) _ _ _); (with_reducible show wpAny _ _ (pyIter (Value.bytes _ _)) (fun it s₂ => LoopAtV _ _ _ _ _ _ _ _ _ it s₂) _ _); k_here; k_bytesUnr)
      | with_reducible (k_here; (with_reducible show wpAny _ _ (call (Value.type "type") [Value.bytes _ _]) _ _ _); refine call_type_of (typeIs_bytes _ _ _) (by decide) ?_)
      | with_reducible (k_here; (with_reducible refine floordiv_int (p256_ne ?kbex0) ?_ (Or.inl (PyProof.noPylong_small (p256_small ?kbpx0)))); (case kbex0 | kbpx0 => omega))
      | walk1
      | (dsimp only)
      | (leave1; walk_say "STEP leave1"; try dsimp only)
      | fail "no step"))
  all_goals (rename News _ _ _ _ => N9; exact ret _ _ _ (Fr.keep (by assumption)) ⟨[(_, _), (_, _), (_, _)], (keys_cons (Nat.le_of_ble_eq_true rfl) (keys_cons (Nat.le_of_ble_eq_true rfl) (keys_cons (Nat.le_of_ble_eq_true rfl) keys_nil))), _, [_, _, _], rfl, (N9 _ (.head _)).2.2, (N9 _ (.head _)).1, (.cons ⟨(N9 _ (.tail _ (.tail _ (.tail _ (.tail _ (.head _)))))).2.2, _, _, (N9 _ (.tail _ (.tail _ (.tail _ (.tail _ (.head _)))))).1⟩ (.cons ⟨(N9 _ (.tail _ (.tail _ (.tail _ (.head _))))).2.2, _, _, (N9 _ (.tail _ (.tail _ (.tail _ (.head _))))).1⟩ (.cons ⟨(N9 _ (.tail _ (.tail _ (.head _)))).2.2, _, _, (N9 _ (.tail _ (.tail _ (.head _)))).1⟩ .nil)))⟩)
theorem sp_keys (w : World) (x : Int) (t : Tok) (h0 : 0 ≤ x) (h1 : x < 648) : Spec w 1 154 [.int x t] [] (fun _ => True) (fun h h' r => ∃ ks, KeysOk ks ∧ KeysAt h h' ks r) := by
  have e : x.fdiv 216 = x / 216 := Int.fdiv_eq_ediv_of_nonneg x (by decide)
  have hc : 3 - x.fdiv 216 = ((1 : Nat) : Int) ∨ 3 - x.fdiv 216 = ((2 : Nat) : Int) ∨ 3 - x.fdiv 216 = ((3 : Nat) : Int) := by rw [e]; omega
  rcases hc with h | h | h
  · exact sp_keys1 w x t h0 h1 h
  · exact sp_keys2 w x t h0 h1 h
  · exact sp_keys3 w x t h0 h1 h
end Mine
end

section
open PySem PySem.W PyProof.Rows PySem.Calls
set_option maxRecDepth 100000
namespace Mine
theorem All2.length {α β : Type} {R : α → β → Prop} {as : List α} {bs : List β} (h : All2 R as bs) : as.length = bs.length := by
  induction h with
  | nil => rfl
  | cons _ _ ih => simp only [List.length_cons, ih]
theorem All2.get {α β : Type} {R : α → β → Prop} {as : List α} {bs : List β} (h : All2 R as bs) : ∀ {i : Nat} {a : α}, as[i]? = some a → ∃ b, bs[i]? = some b ∧ R a b := by
  induction h with
  | nil => intro i a e; simp at e
  | cons r _ ih =>
    intro i a e
    cases i with
    | zero => simp only [List.getElem?_cons_zero, Option.some.injEq] at e ⊢; subst e; exact ⟨_, rfl, r⟩
    | succ j => simp only [List.getElem?_cons_succ] at e ⊢; exact ih e
theorem All2.get' {α β : Type} {R : α → β → Prop} {as : List α} {bs : List β} (h : All2 R as bs) : ∀ {i : Nat} {b : β}, bs[i]? = some b → ∃ a, as[i]? = some a ∧ R a b := by
  induction h with
  | nil => intro i a e; simp at e
  | cons r _ ih =>
    intro i a e
    cases i with
    | zero => simp only [List.getElem?_cons_zero, Option.some.injEq] at e ⊢; subst e; exact ⟨_, rfl, r⟩
    | succ j => simp only [List.getElem?_cons_succ] at e ⊢; exact ih e
theorem All2.imp {α β : Type} {R S : α → β → Prop} {as : List α} {bs : List β} (h : All2 R as bs) (k : ∀ a b, R a b → S a b) : All2 S as bs := by
  induction h with
  | nil => exact .nil
  | cons r _ ih => exact .cons (k _ _ r) ih
theorem IsTup.of_get {h : Heap} {a : Addr} {vs : List Value} (e : h.get? a = some (tupO vs)) : IsTup h a vs.toArray := ⟨_, e, rfl, _, rfl⟩
/-- a pair of ints at an address -/
def PairAt (h : Heap) (b : Addr) (k : Int × Int) : Prop := ∃ u u', IsTup h b #[.int k.1 u, .int k.2 u']
section
variable {prog : Program} {w : World} {A : Around} {E : Value → Shared → Prop} {s : Shared} {env : Env} {h₀ : Heap} {target : Expr} {body : List Stmt} {Q : Flow → Shared → Prop}
/-- a loop over pairs that lie in the base; each turn stores names alone -/
theorem iter_pairs {ax : Addr} {refs : List Addr} {ks : List (Int × Int)} {m₀ : Str → Option Value} {news : List (Addr × Obj)} (stored : List Str) (P : Nat → Prop)
    (hh : A.handled = none) (hT : IsTup h₀ ax (refs.map Value.ref).toArray) (hP : All2 (PairAt h₀) refs ks) (F : Fr h₀ env.locals s.heap m₀) (N : News h₀ env.locals s.heap news) (hj : P 0)
    (turn : ∀ (i : Nat) b (k : Int × Int) u u' (v : Str → Option Value) h tk own, ks[i]? = some k → IsTup h b #[.int k.1 u, .int k.2 u'] → P i → Fr h₀ env.locals h (fun y => if stored.contains y then v y else m₀ y) → News h₀ env.locals h (own ++ news) →
      wpAny (model prog w) A (assign target env (.ref b)) (fun _ s₂ => wpAny (model prog w) A (execs body env) (InvPost h₀ env.locals (fun m' => P (i + 1) ∧ ∀ z, stored.contains z = false → m' z = m₀ z) (own ++ news) { s with heap := h, toks := tk } Q) E s₂) E { s with heap := h, toks := tk })
    (done : P ks.length → ∀ (v : Str → Option Value) h tk, Fr h₀ env.locals h (fun y => if stored.contains y then v y else m₀ y) → News h₀ env.locals h news → Q .next { s with heap := h, toks := tk }) :
    wpAny (model prog w) A (pyIter (.ref ax)) (fun it s₂ => TurnsAt prog w A h₀ env target body Q E it s₂) E s := by
  have hts : IsTup s.heap ax (refs.map Value.ref).toArray := hT.keeps F.keep
  obtain ⟨ol, hol, _⟩ := id hT
  have hlt : ax < h₀.objs.size := Heap.lt_size hol
  have hne : ax ≠ s.heap.objs.size := Nat.ne_of_lt (Nat.lt_trans (Nat.lt_of_lt_of_le hlt F.above) F.ns.lt)
  have asmap : ∀ (m₁ : Str → Option Value), (∀ z, stored.contains z = false → m₁ z = m₀ z) → m₁ = fun y => if stored.contains y then m₁ y else m₀ y := by
    intro m₁ hm
    funext y
    cases hc : stored.contains y with
    | true => simp
    | false => simp only [Bool.false_eq_true, if_false]; exact hm y hc
  refine wpAny_pyIter_tuple hts ?_
  have W := Walks.tuple (prog := prog) (w := w) hh s.heap.objs.size ax hne (refs.map Value.ref).toArray
  have hlen : (refs.map Value.ref).toArray.size = ks.length := by simp [hP.length]
  rw [hlen] at W
  let J : Nat → (Str → Option Value) → List (Addr × Obj) → Prop := fun i m₁ news₁ => news₁ = news ∧ P i ∧ ∀ z, stored.contains z = false → m₁ z = m₀ z
  refine ⟨_, _, _, ks.length, _, _, _, m₀, news, J, rfl, KTurns.ofWalks W (fun i v s Q E st q => letGo_tupleiter st.1 q), ?_, ?_, ?_, ⟨⟨_, Heap.get?_push_size _ rfl, rfl, rfl⟩, hts.keeps fun b o e => Heap.get?_push_of_some _ e⟩, F.push _, (fun p hp => ⟨Heap.get?_push_of_some _ (N p hp).1, (N p hp).2⟩), ⟨rfl, hj, fun _ _ => rfl⟩, ?_, ?_⟩
  · intro hm
    rcases List.mem_cons.mp hm with e | hm
    · exact absurd F.ns.lt (e ▸ Nat.lt_irrefl _)
    · exact absurd (Nat.lt_of_lt_of_le hlt F.above) ((List.mem_singleton.mp hm) ▸ Nat.lt_irrefl _)
  · intro b hb
    rw [List.mem_singleton.mp hb]
    exact next_is_new F
  · intro p hp hI
    exact absurd (Heap.lt_size (N p hp).1) ((List.mem_singleton.mp hI) ▸ Nat.lt_irrefl _)
  · rintro i v m₁ news₁ h₁ tk₁ own hin hPv ⟨rfl, hPi, hm⟩ hoff _ _ _ _ F₁ N₁
    have hv : (refs.map Value.ref)[i]? = some v := by simpa using hPv
    rw [List.getElem?_map] at hv
    obtain ⟨b, hb, rfl⟩ := Option.map_eq_some_iff.mp hv
    obtain ⟨k, hk, u, u', hT'⟩ := hP.get hb
    rw [asmap m₁ hm] at F₁
    refine wpAny_mono (turn i b k u u' m₁ h₁ tk₁ own hk (hT'.keeps F₁.keep) hPi F₁ N₁) (fun _ s₂ h₂ => wpAny_mono h₂ (fun f s₃ p => ?_) fun _ _ e => e) fun _ _ e => e
    have fin : InvEnd h₀ env.locals (fun m' => P (i + 1) ∧ ∀ z, stored.contains z = false → m' z = m₀ z) (own ++ news₁) { s with heap := h₁, toks := tk₁ } s₃ → LoopStepU h₀ env.locals [s.heap.objs.size] own (J (i + 1)) { s with heap := h₁, toks := tk₁ } .next s₃ := by
      rintro ⟨h', tk, m', news', e, F', N', hn, hm'⟩
      exact ⟨rfl, h', tk, m', news₁, e, F', fun p hp => N' p (hn p hp), hoff, rfl, hm'⟩
    cases f with
    | ret v => exact p
    | brk => exact p
    | next => exact fin p
    | cont => exact fin p
  · rintro h' tk m' news' F' N' _ ⟨rfl, hPn, hm⟩
    rw [asmap m' hm] at F'
    exact done hPn m' h' tk F' N'
end
/-- the column of a row -/
def col3 {α : Type} (a b c : α) (i : Int) : α := if i = 0 then a else if i = 1 then b else c
section
variable {prog : Program} {w : World} {A : Around} {E : Value → Shared → Prop} {s : Shared} {h₀ : Heap} {L : Addr} {m : Str → Option Value}
theorem tup3_item {la : Addr} {v0 v1 v2 : Value} {value slice : PySem.Expr} {c : Int} {u : Tok} {Q : Value → Shared → Prop} (hT : IsTup h₀ la #[v0, v1, v2]) (F : Fr h₀ L s.heap m) (h0 : 0 ≤ c) (h3 : c < 3)
    (h : Q (col3 v0 v1 v2 c) s) (hs : subscripted slice false (.ref la) (.int c u) = operate [.ref la, .int c u] (getItem (.ref la) (.int c u))) : wpAny (model prog w) A (subscriptTail value slice (.ref la) (.int c u)) Q E s := by
  have hc : c = 0 ∨ c = 1 ∨ c = 2 := by omega
  refine item_tupleT (l := [v0, v1, v2]) (j := c.toNat) (x := col3 v0 v1 v2 c) (hT.keeps F.keep) (by omega) (by omega) ?_ ?_ h hs
  · rcases hc with rfl | rfl | rfl <;> rfl
  · rcases hc with rfl | rfl | rfl <;> rfl
theorem row_item {la : Addr} {l0 l1 l2 : Array UInt8} {t0 t1 t2 : Tok} {value slice : PySem.Expr} {c : Int} {u : Tok} {Q : Value → Shared → Prop} (hT : IsTup h₀ la #[.bytes l0 t0, .bytes l1 t1, .bytes l2 t2]) (F : Fr h₀ L s.heap m) (h0 : 0 ≤ c) (h3 : c < 3)
    (h : ∀ t', Q (.bytes (col3 l0 l1 l2 c) t') s) (hs : subscripted slice false (.ref la) (.int c u) = operate [.ref la, .int c u] (getItem (.ref la) (.int c u))) : wpAny (model prog w) A (subscriptTail value slice (.ref la) (.int c u)) Q E s := by
  refine tup3_item hT F h0 h3 ?_ hs
  have e : col3 (Value.bytes l0 t0) (Value.bytes l1 t1) (Value.bytes l2 t2) c = Value.bytes (col3 l0 l1 l2 c) (col3 t0 t1 t2 c) := by
    unfold col3; split
    · rfl
    · split <;> rfl
  rw [e]; exact h _
/-- what compare tells by the keys -/
def cmpK (l r : Int → Array UInt8) : List (Int × Int) → Int
  | [] => 0
  | k :: ks => match Builtin.Bytes.order (l k.1).toList (r k.1).toList with
    | .lt => -k.2
    | .gt => k.2
    | .eq => cmpK l r ks
def EqTo (l r : Int → Array UInt8) (ks : List (Int × Int)) (i : Nat) : Prop := ∀ k ∈ ks.take i, Builtin.Bytes.order (l k.1).toList (r k.1).toList = .eq
theorem cmpK_drop {l r : Int → Array UInt8} : ∀ {ks : List (Int × Int)} {i : Nat}, EqTo l r ks i → cmpK l r ks = cmpK l r (ks.drop i)
  | [], i, _ => by simp
  | k :: ks, 0, _ => by simp
  | k :: ks, i + 1, h => by
    have h1 := h k (by simp)
    have h2 : EqTo l r ks i := fun q hq => h q (by rw [List.take_succ_cons]; exact List.mem_cons_of_mem _ hq)
    rw [List.drop_succ_cons, ← cmpK_drop h2]
    simp only [cmpK, h1]
theorem cmpK_at {l r : Int → Array UInt8} {ks : List (Int × Int)} {i : Nat} {k : Int × Int} (h : EqTo l r ks i) (hk : ks[i]? = some k) : cmpK l r ks = match Builtin.Bytes.order (l k.1).toList (r k.1).toList with
    | .lt => -k.2
    | .gt => k.2
    | .eq => cmpK l r (ks.drop (i + 1)) := by
  have e : ks.drop i = k :: ks.drop (i + 1) := by
    have hi := (List.getElem?_eq_some_iff.mp hk).1
    rw [List.drop_eq_getElem_cons hi]
    have := (List.getElem?_eq_some_iff.mp hk).2
    rw [this]
  rw [cmpK_drop h, e]; rfl
theorem eqTo_next {l r : Int → Array UInt8} {ks : List (Int × Int)} {i : Nat} {k : Int × Int} (h : EqTo l r ks i) (hk : ks[i]? = some k) (he : Builtin.Bytes.order (l k.1).toList (r k.1).toList = .eq) : EqTo l r ks (i + 1) := by
  intro q hq
  rw [List.take_add_one, hk] at hq
  rcases List.mem_append.mp hq with hq | hq
  · exact h q hq
  · have : q = k := by simpa using hq
    subst this; exact he
theorem eqTo_all {l r : Int → Array UInt8} {ks : List (Int × Int)} (h : EqTo l r ks ks.length) : cmpK l r ks = 0 := by
  rw [cmpK_drop h, List.drop_length]; rfl
theorem ord_eq {o : Ordering} (h1 : (o == .lt) = false) (h2 : (o == .gt) = false) : o = .eq := by
  cases o
  · exact absurd h1 (by decide)
  · rfl
  · exact absurd h2 (by decide)
end
end Mine
end

section
open PySem PySem.W PyProof.Rows PySem.Calls
set_option maxRecDepth 100000
set_option maxHeartbeats 8000000
set_option linter.unusedSimpArgs false
namespace Mine
/-- the head leaves its own lines switched on: off again -/
theorem offP7 : True := by w_top off; trivial

/-- a judge with its keys -/
structure JudgeAt (h : Heap) (jx : Addr) (ks : List (Int × Int)) (dx ka : Addr) (refs : List Addr) (hsh : Int) (tk : Tok) (n : Nat) : Prop where
  obj : h.get? jx = some (instObj 105 dx)
  dict : h.get? dx = some (dictOf [⟨hsh, .str (Str.ofString "comp_select_list") tk, .ref ka⟩] n)
  tup : IsTup h ka (refs.map Value.ref).toArray
  pairs : All2 (PairAt h) refs ks
/-- the mark of a loop over pairs -/
inductive MarkP (stored : List Str) (P : Nat → Prop) : Prop where | intro
section
variable {prog : Program} {w : World} {A : Around} {E : Value → Shared → Prop} {s : Shared} {env : Env} {h₀ : Heap} {target : Expr} {body : List Stmt} {Q : Flow → Shared → Prop}
theorem iter_pairsM {ax : Addr} {refs : List Addr} {ks : List (Int × Int)} {m₀ : Str → Option Value} {news : List (Addr × Obj)} {stored : List Str} {P : Nat → Prop} (_mk : MarkP stored P)
    (hh : A.handled = none) (hT : IsTup h₀ ax (refs.map Value.ref).toArray) (hP : All2 (PairAt h₀) refs ks) (F : Fr h₀ env.locals s.heap m₀) (N : News h₀ env.locals s.heap news) (hj : P 0)
    (turn : ∀ (i : Nat) b (k : Int × Int) u u' (v : Str → Option Value) h tk own, ks[i]? = some k → IsTup h b #[.int k.1 u, .int k.2 u'] → P i → Fr h₀ env.locals h (fun y => if stored.contains y then v y else m₀ y) → News h₀ env.locals h (own ++ news) →
      wpAny (model prog w) A (assign target env (.ref b)) (fun _ s₂ => wpAny (model prog w) A (execs body env) (InvPost h₀ env.locals (fun m' => P (i + 1) ∧ ∀ z, stored.contains z = false → m' z = m₀ z) (own ++ news) { s with heap := h, toks := tk } Q) E s₂) E { s with heap := h, toks := tk })
    (done : P ks.length → ∀ (v : Str → Option Value) h tk, Fr h₀ env.locals h (fun y => if stored.contains y then v y else m₀ y) → News h₀ env.locals h news → Q .next { s with heap := h, toks := tk }) :
    wpAny (model prog w) A (pyIter (.ref ax)) (fun it s₂ => TurnsAt prog w A h₀ env target body Q E it s₂) E s := iter_pairs stored P hh hT hP F N hj turn done
end
theorem judge_inst {h₀ h : Heap} {L jx dx ka : Addr} {m : Str → Option Value} {ks : List (Int × Int)} {refs : List Addr} {hsh : Int} {tk : Tok} {n : Nat} (J : JudgeAt h₀ jx ks dx ka refs hsh tk n) (F : Fr h₀ L h m) :
    PySem.W.InstAt h jx (instObj 105 dx) 105 (some (dictOf [⟨hsh, .str (Str.ofString "comp_select_list") tk, .ref ka⟩] n)) := ⟨F.keep _ _ J.obj, rfl, rfl, F.keep _ _ J.dict⟩
theorem cmpK_lt {l r : Int → Array UInt8} {ks : List (Int × Int)} {i : Nat} {k : Int × Int} (h : EqTo l r ks i) (hk : ks[i]? = some k) (hb : (Builtin.Bytes.order (l k.1).toList (r k.1).toList == .lt) = true) : -k.2 = cmpK l r ks := by
  rw [cmpK_at h hk, eq_of_beq hb]
theorem cmpK_gt {l r : Int → Array UInt8} {ks : List (Int × Int)} {i : Nat} {k : Int × Int} (h : EqTo l r ks i) (hk : ks[i]? = some k) (hb : (Builtin.Bytes.order (l k.1).toList (r k.1).toList == .gt) = true) : k.2 = cmpK l r ks := by
  rw [cmpK_at h hk, eq_of_beq hb]
theorem eqTo_zero (l r : Int → Array UInt8) (ks : List (Int × Int)) : EqTo l r ks 0 := fun _ h => by simp at h
theorem keysOk_at {ks : List (Int × Int)} {i : Nat} {k : Int × Int} (h : KeysOk ks) (hk : ks[i]? = some k) : 0 ≤ k.1 ∧ k.1 < 3 ∧ (k.2 = 1 ∨ k.2 = -1) := h.2 k (List.mem_of_getElem? hk)
theorem sp_cmp (w : World) (jx la ra dx ka : Addr) (ks : List (Int × Int)) (refs : List Addr) (hsh : Int) (tk0 : Tok) (n0 : Nat) (l0 l1 l2 r0 r1 r2 : Array UInt8) (t0 t1 t2 u0 u1 u2 : Tok) (hok : KeysOk ks) :
    Spec w 1 102 [.ref jx, .ref la, .ref ra] [] (fun h => JudgeAt h jx ks dx ka refs hsh tk0 n0 ∧ IsTup h la #[.bytes l0 t0, .bytes l1 t1, .bytes l2 t2] ∧ IsTup h ra #[.bytes r0 u0, .bytes r1 u1, .bytes r2 u2])
      (fun _ _ r => ∃ t', r = .int (cmpK (col3 l0 l1 l2) (col3 r0 r1 r2) ks) t') := by
  have mk9 : MarkP [Str.ofString "index", Str.ofString "direction", Str.ofString "l", Str.ofString "r"] (EqTo (col3 l0 l1 l2) (col3 r0 r1 r2) ks) := .intro
  intro mean mg mb dp un gd base outer s Q E B X T hd hu hp ret
  obtain ⟨hJ, hla, hra⟩ := hp
  have hJt := hJ.tup
  have hJp := hJ.pairs
  skip
  k_dflt (refine' enter (binds := [(Str.ofString "self", .ref jx), (Str.ofString "left", .ref la), (Str.ofString "right", .ref ra)]) X T ?ho ?hcd ?hroom ?hbind ?hloc ?_ ?c2 ?c3 ?c4 ?c5)
  case ho => k_is
  case hcd => k_is
  case hroom => exact Nat.lt_of_le_of_lt (Nat.le_add_right _ _) hd
  case hbind => exact BindsTo.of_eq rfl
  case hloc => exact locs rfl
  case c2 => rfl
  case c3 => rfl
  case c4 => rfl
  case c5 => decide
  intro L h₁ F N
  (try dsimp only)
  (try k_fold)
  w_strict (repeat' (first
      | (k_unfold; (try dsimp only))
      | (k_end; wrow_close)
      | with_reducible (k_here; (with_reducible refine gt_bytes ?_))
      | with_reducible (k_here; (with_reducible refine lt_bytes ?_))
      | with_reducible ((with_reducible show wpAny _ _ (subscriptTail _ _ (Value.ref _) (Value.int _ _)) _ _ _); k_here; k_dflt (refine' row_item ?k1x15 ?k2x15 ?k3x15 ?k4x15 ?_ ?k5x15; (case k1x15 => with_reducible assumption); (case k2x15 => k_asm); (case k3x15 | k4x15 => assumption); (case k5x15 => with_unfolding_all rfl); k_whole); intro t')
      | with_reducible ((with_reducible show wpAny _ _ (pyIter (Value.ref _)) _ _ _); k_here; k_dflt (refine' iter_pairsM ?mkx14 ?hhx14 ?hTx14 ?hPx14 ?Fx14 ?Nx14 ?hjx14 ?ktx14 ?kdx14; (case mkx14 => with_reducible assumption); (case hhx14 => rfl); (case hTx14 | hPx14 => assumption); (case Fx14 | Nx14 => k_asm); (case hjx14 => exact eqTo_zero _ _ _)); (case' ktx14 => (intro i' b' k' u' u2' v' h' tk' own' hk' hb' hp' F' N'; (obtain ⟨lo', hi', dir'⟩ := keysOk_at (by assumption) hk'); (try dsimp only))); (case' kdx14 => (intro hp' v' h' tk' F' N'; (try dsimp only))); (all_goals (try k_fold)))
      | with_reducible ((with_reducible show wpAny _ _ (exec (Stmt.For (Expr.Tuple _ _ _) (Expr.Attribute _ _ _) _ _ _) _) _ _ _); k_here; (rename Fr _ _ _ _ => lF'); (with_unfolding_all refine' For_turns lF' ?_; k_whole))
      | with_reducible (k_here; (with_reducible show wpAny _ _ (getAttr (Value.ref _) (PySem.Str.ofString "comp_select_list") _) _ _ _); k_dflt (refine' get_own ?k1x12 ?k2x12 ?k3x12 ?k4x12 ?k5x12 ?k6x12 ?k7x12 ?k8x12 ?k9x12 ?_; (case k1x12 | k2x12 => k_asm); (case k3x12 => exact judge_inst (by with_reducible assumption) (by k_asm)); (case k4x12 | k5x12 | k6x12 | k7x12 => k_is); (case k8x12 | k9x12 => rfl); k_whole))
      | with_reducible (k_here; (with_reducible refine meth_encode ?_))
      | with_reducible (k_here; (with_reducible show wpAny _ _ (call (Value.builtin "str.encode") [Value.str _ _, Value.str _ _]) _ _ _); (refine call_encode (by (first | assumption | exact hexOf_low _)) (by (first | assumption | omega | (simp only [List.size_toArray, hexOf_length, Array.length_toList]; omega))) ?_); intro t' k')
      | with_reducible (k_here; (with_reducible show wpAny _ _ (call (Value.builtin "bytes.translate") [Value.bytes _ _, Value.bytes _ _]) _ _ _); (refine call_translate (by decide) (by (first | assumption | omega | (simp only [byteArr_size]; omega))) ?_); intro t' k')
      | with_reducible (k_here; (with_reducible show wpAny _ _ (call (Value.builtin "bytes.upper") [Value.bytes _ _]) _ _ _); (refine call_upper (by (first | assumption | omega | (simp only [Array.size_map, List.size_toArray, hexOf_length, Array.length_toList]; omega))) ?_); intro t' k')
      | with_reducible (k_here; (with_reducible show wpAny _ _ (call (Value.builtin "bytes.hex") [Value.bytes _ _]) _ _ _); (refine call_hex (by (first | assumption | omega)) ?_); intro t' k')
      | with_reducible (k_here; first | (with_reducible refine meth_hex ?_) | (with_reducible refine meth_upper ?_) | (with_reducible refine meth_translate ?_))
      | with_reducible (k_here; (with_reducible show wpAny _ _ (call (Value.type "bytes") [Value.ref _]) _ _ _); k_dflt (refine' bytes_push ?kbaFx5 ?kbaNx5 ?kbahx5 ?kbalx5 ?kbaix5 ?kbarx5 ?kbanx5 ?_; (case kbaFx5 | kbaNx5 => k_asm); (case kbahx5 => rfl); (case kbalx5 => k_mem); (case kbaix5 => ((repeat apply ia_push); exact ia_nil)); (case kbarx5 => ((repeat (refine' in_push ?_ ?kax5 ?kbx5; (case kax5 | kbx5 => first | with_reducible assumption | decide))); exact in_nil)); (case kbanx5 => exact Nat.le_of_ble_eq_true rfl)); intro h' t' k' F' N')
      | with_reducible ((with_reducible show wpAny _ _ (storeName _ _ _) _ _ _); k_here; k_dflt (first | (refine' storeI ?Fx4 ?Nx4 ?_ ?ax4 ?bx4; (case Fx4 | Nx4 => k_asm); (case ax4 | bx4 => rfl); k_whole; intro h' t' tk' F' N'; (try k_sweep); (try dsimp only)) | (refine' storeS ?Fx4 ?Nx4 ?_ ?ax4 ?bx4; (case Fx4 | Nx4 => k_asm); (case ax4 | bx4 => rfl); k_whole; intro h' t' tk' F' N'; (try k_sweep); (try dsimp only)) | (refine' storeB ?Fx4 ?Nx4 ?_ ?ax4 ?bx4; (case Fx4 | Nx4 => k_asm); (case ax4 | bx4 => rfl); k_whole; intro h' t' tk' F' N'; (try k_sweep); (try dsimp only))))
      | with_reducible ((with_reducible show wpAny _ _ (binaryOp Operator.LShift (Value.int _ _) (Value.int _ _)) _ _ _); k_here; (with_reducible refine' lshift_int_small ?kb1x3 ?kb2x3 ?kb3x3 ?_); (case kb1x3 | kb2x3 => decide); (case kb3x3 => ((try simp only [bitAnd_m16, bitAnd_m2, bitAnd_m4]); omega)))
      | with_reducible ((with_reducible show wpAny _ _ (pyIter (Value.bytes _ _)) _ _ _); (with_reducible show wpAny _ _ (pyIter (Value.bytes _ _)) (fun it s₂ => LoopAtV _ _ _ _ _ _ _ _ _ it s₂) _ _); k_here; k_bytesUnr)
      | with_reducible (k_here; (with_reducible show wpAny _ _ (call (Value.type "type") [Value.bytes _ _]) _ _ _); refine call_type_of (typeIs_bytes _ _ _) (by decide) ?_)
      | with_reducible (k_here; (with_reducible refine floordiv_int (p256_ne ?kbex0) ?_ (Or.inl (PyProof.noPylong_small (p256_small ?kbpx0)))); (case kbex0 | kbpx0 => omega))
      | walk1
      | (dsimp only)
      | (leave1; walk_say "STEP leave1"; try dsimp only)
      | fail "no step"))
  · exact ret _ _ _ (Fr.keep (by assumption)) ⟨_, congrArg (fun e => Value.int e _) (eqTo_all (by assumption)).symm⟩
  · exact ret _ _ _ (Fr.keep (by assumption)) ⟨_, congrArg (fun e => Value.int e _) (cmpK_lt (by assumption) (by assumption) (by assumption))⟩
  · exact ret _ _ _ (Fr.keep (by assumption)) ⟨_, congrArg (fun e => Value.int e _) (cmpK_gt (by assumption) (by assumption) (by assumption))⟩
  · refine InvEnd.intro (by k_asm) (by k_asm) (fun p hp => hp) ⟨eqTo_next (by assumption) (by assumption) (ord_eq (by simp_all) (by simp_all)), fun z hz => ?_⟩
    have n0 : z ≠ Str.ofString "index" := fun e => by rw [e] at hz; exact absurd hz (by decide)
    have n1 : z ≠ Str.ofString "direction" := fun e => by rw [e] at hz; exact absurd hz (by decide)
    have n2 : z ≠ Str.ofString "l" := fun e => by rw [e] at hz; exact absurd hz (by decide)
    have n3 : z ≠ Str.ofString "r" := fun e => by rw [e] at hz; exact absurd hz (by decide)
    simp [n0, n1, n2, n3]
end Mine
end

section
open PySem PySem.W PyProof.Rows PySem.Calls
set_option maxRecDepth 100000
namespace Mine
def RowIs (h : Heap) (a : Addr) (n : Int) : Prop := ∃ t1 t2 t3, IsTup h a #[.bytes (hexB (octI (n.fmod 16))) t1, .bytes (byteArr (b64I (octI (n.fdiv 16)))) t2, .bytes (trOf urlTab (byteArr (b64I (octI (n.fdiv 7))))) t3]
def OwnIs (h : Heap) (a : Addr) (n : Int) : Prop := ∃ b c t1 t2 t3 u1 u2 u3, IsTup h a #[.ref b, .ref c] ∧ IsTup h b #[.str (strOf (g1 (n.fmod 16))) t1, .str (strOf (g2 (n.fdiv 16))) t2, .str (strOf (g3 (n.fdiv 7))) t3] ∧ IsTup h c #[.int (w1 (n.fmod 16)) u1, .int (w2 (n.fdiv 16)) u2, .int (w3 (n.fdiv 7)) u3]
structure DataAt (h : Heap) (rl ol : Addr) (refs orefs : List Addr) (ns : List Int) : Prop where
  rows : h.IsList rl (refs.map Value.ref).toArray
  owns : h.IsList ol (orefs.map Value.ref).toArray
  row : All2 (RowIs h) refs ns
  own : All2 (OwnIs h) orefs ns
  few : refs.length ≤ 12
theorem DataAt.at {h : Heap} {rl ol : Addr} {refs orefs : List Addr} {ns : List Int} (D : DataAt h rl ol refs orefs ns) {k : Int} (h0 : 0 ≤ k) (h1 : k < 0 + (refs.length : Int)) :
    ∃ a b n, refs[k.toNat]? = some a ∧ orefs[k.toNat]? = some b ∧ ns[k.toNat]? = some n ∧ RowIs h a n ∧ OwnIs h b n := by
  have hi : k.toNat < refs.length := by omega
  obtain ⟨n, hn, hr⟩ := D.row.get (List.getElem?_eq_getElem hi)
  obtain ⟨b, hb, ho⟩ := D.own.get' hn
  exact ⟨_, b, n, List.getElem?_eq_getElem hi, hb, hn, hr, ho⟩
theorem rsN_small {n : Nat} (h : n ≤ 12) : Builtin.Range.small 0 (n : Int) 1 = true := by
  have : ∀ m : Nat, m ≤ 12 → Builtin.Range.small 0 (m : Int) 1 = true := by decide
  exact this n h
theorem rsN_size {n : Nat} (h : n ≤ 12) : Builtin.Range.rangeSize 0 (n : Int) 1 = (n : Int) := by
  have : ∀ m : Nat, m ≤ 12 → Builtin.Range.rangeSize 0 (m : Int) 1 = (m : Int) := by decide
  exact this n h
section
variable {prog : Program} {w : World} {A : Around} {E : Value → Shared → Prop} {s : Shared} {h₀ : Heap} {L : Addr} {m : Str → Option Value}
theorem list_item {rl a : Addr} {refs : List Addr} {value slice : PySem.Expr} {k : Int} {u : Tok} {Q : Value → Shared → Prop} (hL : h₀.IsList rl (refs.map Value.ref).toArray) (F : Fr h₀ L s.heap m) (h0 : 0 ≤ k) (hl : refs.length ≤ 12) (hx : refs[k.toNat]? = some a) (h : Q (.ref a) s)
    (hs : subscripted slice false (.ref rl) (.int k u) = operate [.ref rl, .int k u] (getItem (.ref rl) (.int k u))) : wpAny (model prog w) A (subscriptTail value slice (.ref rl) (.int k u)) Q E s := by
  have hls : s.heap.IsList rl (refs.map Value.ref).toArray := hL.at fun o e => F.keep rl o e
  have hi := (List.getElem?_eq_some_iff.mp hx).1
  refine tail_any hls.typeIs slot_list_getitem.lookup (wpAny_getItem_list hls h0 (by omega) (by simp [List.getElem?_map, hx]) h) hs
theorem len_list0 {rl : Addr} {refs : List Addr} {Q : Value → Shared → Prop} (hL : h₀.IsList rl (refs.map Value.ref).toArray) (F : Fr h₀ L s.heap m) (hl : refs.length ≤ 12) (h : ∀ t' k, Q (.int (refs.length : Nat) t') { s with toks := k }) :
    wpAny (model prog w) A (call (.builtin "len") [.ref rl]) Q E s := by
  have hls : s.heap.IsList rl (refs.map Value.ref).toArray := hL.at fun o e => F.keep rl o e
  have e : (refs.map Value.ref).toArray.size = refs.length := by simp
  exact call_len_list hls (by rw [e]; omega) (by rw [e]; exact h _ _)
theorem strs_item {la : Addr} {l0 l1 l2 : List Nat} {t0 t1 t2 : Tok} {value slice : PySem.Expr} {c : Int} {u : Tok} {Q : Value → Shared → Prop} (hT : IsTup h₀ la #[.str (strOf l0) t0, .str (strOf l1) t1, .str (strOf l2) t2]) (F : Fr h₀ L s.heap m) (h0 : 0 ≤ c) (h3 : c < 3)
    (h : ∀ t', Q (.str (strOf (col3 l0 l1 l2 c)) t') s) (hs : subscripted slice false (.ref la) (.int c u) = operate [.ref la, .int c u] (getItem (.ref la) (.int c u))) : wpAny (model prog w) A (subscriptTail value slice (.ref la) (.int c u)) Q E s := by
  refine tup3_item hT F h0 h3 ?_ hs
  have e : col3 (Value.str (strOf l0) t0) (Value.str (strOf l1) t1) (Value.str (strOf l2) t2) c = Value.str (strOf (col3 l0 l1 l2 c)) (col3 t0 t1 t2 c) := by
    unfold col3; split
    · rfl
    · split <;> rfl
  rw [e]; exact h _
theorem ints_item {la : Addr} {l0 l1 l2 : Int} {t0 t1 t2 : Tok} {value slice : PySem.Expr} {c : Int} {u : Tok} {Q : Value → Shared → Prop} (hT : IsTup h₀ la #[.int l0 t0, .int l1 t1, .int l2 t2]) (F : Fr h₀ L s.heap m) (h0 : 0 ≤ c) (h3 : c < 3)
    (h : ∀ t', Q (.int (col3 l0 l1 l2 c) t') s) (hs : subscripted slice false (.ref la) (.int c u) = operate [.ref la, .int c u] (getItem (.ref la) (.int c u))) : wpAny (model prog w) A (subscriptTail value slice (.ref la) (.int c u)) Q E s := by
  refine tup3_item hT F h0 h3 ?_ hs
  have e : col3 (Value.int l0 t0) (Value.int l1 t1) (Value.int l2 t2) c = Value.int (col3 l0 l1 l2 c) (col3 t0 t1 t2 c) := by
    unfold col3; split
    · rfl
    · split <;> rfl
  rw [e]; exact h _
theorem two_item0 {la b c : Addr} {value slice : PySem.Expr} {u : Tok} {Q : Value → Shared → Prop} (hT : IsTup h₀ la #[.ref b, .ref c]) (F : Fr h₀ L s.heap m) (h : Q (.ref b) s)
    (hs : subscripted slice false (.ref la) (.int 0 u) = operate [.ref la, .int 0 u] (getItem (.ref la) (.int 0 u))) : wpAny (model prog w) A (subscriptTail value slice (.ref la) (.int 0 u)) Q E s :=
  item_tupleT (l := [.ref b, .ref c]) (j := 0) (hT.keeps F.keep) (by decide) (by decide) rfl rfl h hs
theorem two_item1 {la b c : Addr} {value slice : PySem.Expr} {u : Tok} {Q : Value → Shared → Prop} (hT : IsTup h₀ la #[.ref b, .ref c]) (F : Fr h₀ L s.heap m) (h : Q (.ref c) s)
    (hs : subscripted slice false (.ref la) (.int 1 u) = operate [.ref la, .int 1 u] (getItem (.ref la) (.int 1 u))) : wpAny (model prog w) A (subscriptTail value slice (.ref la) (.int 1 u)) Q E s :=
  item_tupleT (l := [.ref b, .ref c]) (j := 1) (hT.keeps F.keep) (by decide) (by decide) rfl rfl h hs
end
inductive MarkN (stored : List Str) : Prop where | intro
section
variable {prog : Program} {w : World} {A : Around} {E : Value → Shared → Prop} {s : Shared} {env : Env} {h₀ : Heap} {x : Str} {body : List Stmt} {Q : Flow → Shared → Prop}
theorem iter_rangeLawM {stored : List Str} (_mk : MarkN stored) {r : Addr} {b₀ : Int} {t₀ u₀ v₀ : Tok} {n : Nat} {m₀ : Str → Option Value} {news : List (Addr × Obj)}
    (hh : A.handled = none) (hr : IsRange s.heap r 0 b₀ 1 t₀ u₀ v₀) (hsmall : Builtin.Range.small 0 b₀ 1 = true) (hn : Builtin.Range.rangeSize 0 b₀ 1 = (n : Int)) (F : Fr h₀ env.locals s.heap m₀) (N : News h₀ env.locals s.heap news)
    (turn : ∀ k t (u : Str → Option Value) h tk own, 0 ≤ k → k < 0 + (n : Int) → Fr h₀ env.locals h (fun y => if y = x then some (.int k t) else if stored.contains y then u y else m₀ y) → News h₀ env.locals h (own ++ news) →
      wpAny (model prog w) A (execs body env) (TurnPost h₀ env.locals x stored m₀ (own ++ news) { s with heap := h, toks := tk } Q) E { s with heap := h, toks := tk })
    (done : ∀ (u : Str → Option Value) h tk, Fr h₀ env.locals h (fun y => if y = x then u y else if stored.contains y then u y else m₀ y) → News h₀ env.locals h news → Q .next { s with heap := h, toks := tk }) :
    wpAny (model prog w) A (pyIter (.ref r)) (fun it s₂ => LoopAtV prog w A h₀ env x body Q E it s₂) E s := iter_rangeLaw stored hh hr hsmall hn F N turn done
end
/-- in the base -/
theorem ascii_of {l : List Nat} (h : ∀ c ∈ l, c < 128) : ∀ c ∈ (strOf l).cps, c < 128 := fun c hc => h c (by simpa [strOf] using hc)
end Mine
end

section
open PySem PySem.W PyProof.Rows PySem.Calls
set_option maxRecDepth 100000
namespace Mine
theorem u8_nat (n : Nat) (h : n < 256) : (n.toUInt8).toNat = n := by simp [Nat.toUInt8]; omega
theorem byteArr_list (l : List Int) : (byteArr l).toList = l.map fun n => n.toNat.toUInt8 := by simp [byteArr]
/-- the codes of a text as octets -/
def u8s (l : List Nat) : List UInt8 := l.map Nat.toUInt8
theorem str_u8 (l : List Nat) : (strOf l).cps.map Nat.toUInt8 = (u8s l).toArray := by simp [strOf, u8s]
theorem hexd : ∀ d < 16, Builtin.Bytes.toUpper (Builtin.Bytes.hexDigit d).toUInt8 = (alph1.cps.getD d 0).toUInt8 := by decide +kernel
theorem b64d : ∀ i < 64, b64L.getD i 0 = (alph2.cps.getD i 0).toUInt8 := by decide +kernel
theorem urld : ∀ i < 64, urlTab.getD (b64L.getD i 0).toNat (b64L.getD i 0) = (alph3.cps.getD i 0).toUInt8 := by decide +kernel
theorem hexB_eq {o : List Int} (hin : KBa.In o) : hexB o = (u8s (sig4 alph1 o)).toArray := by
  unfold hexB
  congr 1
  rw [byteArr_list]
  induction o with
  | nil => simp [hexOf, sig4, u8s]
  | cons a r ih =>
    have ha := hin a (by simp)
    have hr : KBa.In r := fun n hn => hin n (List.mem_cons_of_mem _ hn)
    have e : (a.toNat.toUInt8).toNat = a.toNat := u8_nat _ (by omega)
    have e1 := hexd (a.toNat / 16) (by omega)
    have e2 := hexd (a.toNat % 16) (by omega)
    have h1 : (a / 16).toNat = a.toNat / 16 := by omega
    have h2 : (a % 16).toNat = a.toNat % 16 := by omega
    have ih' := ih hr
    simp only [List.map_map, Array.toList_map, List.toList_toArray] at ih' ⊢
    simp only [hexOf, List.map_cons, List.flatMap_cons, List.map_append, sig4, u8s, List.cons_append, List.nil_append, Function.comp_apply, e, e1, e2, al, h1, h2, List.map_nil] at ih' ⊢
    rw [ih']
theorem b64c_u8 {i : Int} (h0 : 0 ≤ i) (h : i < 64) : (b64c i).toNat.toUInt8 = (al alph2 i).toUInt8 := by
  have e := b64d i.toNat (by omega)
  simp only [b64c, Int.toNat_natCast, al]
  rw [← e]
  simp
theorem b64I_eq {o : List Int} (hin : KBa.In o) : byteArr (b64I o) = (u8s (sig6 alph2 o)).toArray := by
  match o, hin with
  | [], _ => rfl
  | [a], hin =>
    have ha := hin a (by simp)
    simp only [b64I, sig6, byteArr, u8s, List.map_cons, List.map_nil]
    rw [b64c_u8 (by omega) (by omega), b64c_u8 (by omega) (by omega)]; rfl
  | [a, b], hin =>
    have ha := hin a (by simp)
    have hb := hin b (by simp)
    simp only [b64I, sig6, byteArr, u8s, List.map_cons, List.map_nil]
    rw [b64c_u8 (by omega) (by omega), b64c_u8 (by omega) (by omega), b64c_u8 (by omega) (by omega)]; rfl
  | [a, b, c], hin =>
    have ha := hin a (by simp)
    have hb := hin b (by simp)
    have hc := hin c (by simp)
    simp only [b64I, sig6, byteArr, u8s, List.map_cons, List.map_nil]
    rw [b64c_u8 (by omega) (by omega), b64c_u8 (by omega) (by omega), b64c_u8 (by omega) (by omega), b64c_u8 (by omega) (by omega)]
  | _ :: _ :: _ :: _ :: _, _ => rfl
theorem url_u8 {i : Int} (h0 : 0 ≤ i) (h : i < 64) : urlTab.getD ((b64c i).toNat.toUInt8).toNat ((b64c i).toNat.toUInt8) = (al alph3 i).toUInt8 := by
  have e : (b64c i).toNat.toUInt8 = b64L.getD i.toNat 0 := by simp [b64c]
  rw [e]
  exact urld i.toNat (by omega)
theorem urlI_eq {o : List Int} (hin : KBa.In o) : trOf urlTab (byteArr (b64I o)) = (u8s (sig6 alph3 o)).toArray := by
  have e61 : urlTab.getD ((61 : Int).toNat.toUInt8).toNat ((61 : Int).toNat.toUInt8) = (61 : Nat).toUInt8 := by decide
  have em : ∀ l : List Int, trOf urlTab (byteArr l) = (l.map fun n => urlTab.getD (n.toNat.toUInt8).toNat (n.toNat.toUInt8)).toArray := by
    intro l
    apply Array.ext'
    simp [trOf, byteArr]
  rw [em]
  match o, hin with
  | [], _ => rfl
  | [a], hin =>
    have ha := hin a (by simp)
    simp only [b64I, sig6, u8s, List.map_cons, List.map_nil]
    rw [url_u8 (by omega) (by omega), url_u8 (by omega) (by omega), e61]
  | [a, b], hin =>
    have ha := hin a (by simp)
    have hb := hin b (by simp)
    simp only [b64I, sig6, u8s, List.map_cons, List.map_nil]
    rw [url_u8 (by omega) (by omega), url_u8 (by omega) (by omega), url_u8 (by omega) (by omega), e61]
  | [a, b, c], hin =>
    have ha := hin a (by simp)
    have hb := hin b (by simp)
    have hc := hin c (by simp)
    simp only [b64I, sig6, u8s, List.map_cons, List.map_nil]
    rw [url_u8 (by omega) (by omega), url_u8 (by omega) (by omega), url_u8 (by omega) (by omega), url_u8 (by omega) (by omega)]
  | _ :: _ :: _ :: _ :: _, _ => rfl
theorem al1_low : ∀ d < 16, alph1.cps.getD d 0 < 128 := by decide +kernel
theorem codes2_low : ∀ c ∈ codes2, c < 128 := by decide +kernel
theorem codes3_low : ∀ c ∈ codes3, c < 128 := by decide +kernel
theorem g1_low (x : Int) : ∀ c ∈ g1 x, c < 128 := by
  intro c hc
  obtain ⟨a, ha, hc⟩ := List.mem_flatMap.mp hc
  have hin := octI_in x a ha
  simp only [List.mem_cons, List.not_mem_nil, or_false] at hc
  rcases hc with rfl | rfl
  · exact al1_low _ (by omega)
  · exact al1_low _ (by omega)
theorem g2_low (x : Int) : ∀ c ∈ g2 x, c < 128 := fun c hc => codes2_low c (g2_mem x c hc)
theorem g3_low (x : Int) : ∀ c ∈ g3 x, c < 128 := fun c hc => codes3_low c (g3_mem x c hc)
/-- a row's columns, the law's columns -/
def rowC (n i : Int) : Array UInt8 := col3 (hexB (octI (n.fmod 16))) (byteArr (b64I (octI (n.fdiv 16)))) (trOf urlTab (byteArr (b64I (octI (n.fdiv 7))))) i
def ownC (n i : Int) : List Nat := col3 (g1 (n.fmod 16)) (g2 (n.fdiv 16)) (g3 (n.fdiv 7)) i
theorem rowC_eq (n i : Int) : rowC n i = (u8s (ownC n i)).toArray := by
  unfold rowC ownC col3
  split
  · exact hexB_eq (octI_in _)
  · split
    · exact b64I_eq (octI_in _)
    · exact urlI_eq (octI_in _)
theorem ownC_low (n i : Int) : ∀ c ∈ ownC n i, c < 128 := by
  unfold ownC col3
  split
  · exact g1_low _
  · split
    · exact g2_low _
    · exact g3_low _
theorem sig4_len (alph : Str) (o : List Int) : (sig4 alph o).length = 2 * o.length := by
  induction o with
  | nil => rfl
  | cons a r ih => simp only [sig4, List.flatMap_cons, List.length_append, List.length_cons, List.length_nil] at ih ⊢; omega
theorem ownC_len (n i : Int) : (ownC n i).length ≤ 6 := by
  unfold ownC col3
  split
  · have := octI_len (n.fmod 16); rw [g1, sig4_len]; omega
  · split
    · exact Nat.le_trans (sig6_len _ _) (by decide)
    · exact Nat.le_trans (sig6_len _ _) (by decide)
theorem ownC_enc (n i : Int) : ∀ c ∈ (strOf (col3 (g1 (n.fmod 16)) (g2 (n.fdiv 16)) (g3 (n.fdiv 7)) i)).cps, c < 128 := ascii_of (ownC_low n i)
theorem ownC_fit (n i : Int) : (strOf (col3 (g1 (n.fmod 16)) (g2 (n.fdiv 16)) (g3 (n.fdiv 7)) i)).cps.size ≤ 16777216 := by
  have h := ownC_len n i
  have e : (strOf (col3 (g1 (n.fmod 16)) (g2 (n.fdiv 16)) (g3 (n.fdiv 7)) i)).cps.size = (ownC n i).length := by simp [strOf, ownC]
  omega
theorem row_is_own (n i : Int) : col3 (hexB (octI (n.fmod 16))) (byteArr (b64I (octI (n.fdiv 16)))) (trOf urlTab (byteArr (b64I (octI (n.fdiv 7))))) i = (strOf (col3 (g1 (n.fmod 16)) (g2 (n.fdiv 16)) (g3 (n.fdiv 7)) i)).cps.map Nat.toUInt8 := by
  rw [str_u8]; exact rowC_eq n i
theorem ne_same {prog : Program} {w : World} {A : Around} {E : Value → Shared → Prop} {s : Shared} {b c : Array UInt8} {t u : Tok} {Q : Value → Shared → Prop} (e : b = c) (h : Q (.bool false) s) : wpAny (model prog w) A (compareOp .NotEq (.bytes b t) (.bytes c u)) Q E s := by
  refine ne_bytes ?_
  rw [e, show (c.toList != c.toList) = false from by simp]
  exact h
end Mine
end

section
open PySem PySem.W PyProof.Rows PySem.Calls
set_option maxRecDepth 100000
set_option maxHeartbeats 8000000
set_option linter.unusedSimpArgs false
namespace Mine
/-- the head leaves its own lines switched on: off again -/
theorem offP8 : True := by w_top off; trivial
theorem sp_written (w : World) (rl ol : Addr) (refs orefs : List Addr) (ns : List Int) (t t2 : Tok) : Spec w 1 161 [.ref rl, .ref ol] [] (fun h => DataAt h rl ol refs orefs ns) (fun _ _ r => r = .bool true) := by
  have mk9 : MarkN [Str.ofString "column"] := .intro
  intro mean mg mb dp un gd base outer s Q E B X T hd hu hp ret
  have hD1 := hp.rows
  have hD2 := hp.owns
  have hD3 := hp.few
  have hD4 : orefs.length ≤ 12 := by rw [hp.own.length, ← hp.row.length]; exact hp.few
  skip
  k_dflt (refine' enter (binds := [(Str.ofString "rows", .ref rl), (Str.ofString "owns", .ref ol)]) X T ?ho ?hcd ?hroom ?hbind ?hloc ?_ ?c2 ?c3 ?c4 ?c5)
  case ho => k_is
  case hcd => k_is
  case hroom => exact Nat.lt_of_le_of_lt (Nat.le_add_right _ _) hd
  case hbind => exact BindsTo.of_eq rfl
  case hloc => exact locs rfl
  case c2 => rfl
  case c3 => rfl
  case c4 => rfl
  case c5 => decide
  intro L h₁ F N
  (try dsimp only)
  (try k_fold)
  w_strict (repeat' (first
      | (k_unfold; (try dsimp only))
      | (k_end; wrow_close)
      | with_reducible (k_here; (with_reducible refine ne_same (row_is_own _ _) ?_))
      | with_reducible (k_here; (with_reducible refine call_encode (ownC_enc _ _) (ownC_fit _ _) ?_); intro t' k')
      | with_reducible ((with_reducible show wpAny _ _ (pyIter (Value.ref _)) _ _ _); k_here; k_dflt (refine' iter_rangeLawM (n := 3) ?mkx15 ?hhx15 ?hrx15 ?hsx15 ?hnx15 ?Fx15 ?Nx15 (fun k' t' u' h' tk' own' lo' hi' F' N' => ?_) (fun u' h' tk' F' N' => ?_); (case mkx15 => with_reducible assumption); (case hhx15 => rfl); (case hrx15 => assumption); (case hsx15 | hnx15 => decide); (case Fx15 | Nx15 => k_asm)); (all_goals (try dsimp only)); (all_goals (try k_fold)))
      | with_reducible ((with_reducible show wpAny _ _ (pyIter (Value.ref _)) _ _ _); k_here; k_dflt (refine' iter_rangeLawM ?mkx14 ?hhx14 ?hrx14 ?hsx14 ?hnx14 ?Fx14 ?Nx14 ?ktx14 ?kdx14; (case mkx14 => with_reducible assumption); (case hhx14 => rfl); (case hrx14 => assumption); (case hsx14 => exact rsN_small (by with_reducible assumption)); (case hnx14 => exact rsN_size (by with_reducible assumption)); (case Fx14 | Nx14 => k_asm)); (case' ktx14 => (intro k' t' u' h' tk' own' lo' hi' F' N'; (try k_dflt (obtain ⟨a9, b9, n9, ha9, hb9, hn9, ⟨x1, x2, x3, hr9⟩, ⟨c9, d9, y1, y2, y3, z1, z2, z3, ho9, hs9, hw9⟩⟩ := DataAt.at (by with_reducible assumption) lo' hi')); (try dsimp only))); (case' kdx14 => (intro u' h' tk' F' N'; (try dsimp only))); (all_goals (try k_fold)))
      | with_reducible (k_here; (with_reducible show wpAny _ _ (call (Value.builtin "len") [Value.ref _]) _ _ _); k_dflt (refine' len_list0 ?k1x13 ?k2x13 ?k3x13 ?_; (case k1x13 => with_reducible assumption); (case k2x13 => k_asm); (case k3x13 => first | with_reducible assumption | omega)); intro t' k')
      | with_reducible (k_here; (with_reducible show wpAny _ _ (subscriptTail _ _ (Value.ref _) (Value.int _ _)) _ _ _); first | (k_dflt (refine' list_item ?k1x12 ?k2x12 ?k3x12 ?k6x12 ?k4x12 ?_ ?k5x12; (case k1x12 => with_reducible assumption); (case k2x12 => k_asm); (case k3x12 => first | with_reducible assumption | omega); (case k6x12 | k4x12 => with_reducible assumption); (case k5x12 => with_unfolding_all rfl); k_whole)) | (k_dflt (refine' row_item ?k1x12 ?k2x12 ?k3x12 ?k4x12 ?_ ?k5x12; (case k1x12 => with_reducible assumption); (case k2x12 => k_asm); (case k3x12 | k4x12 => first | with_reducible assumption | omega); (case k5x12 => with_unfolding_all rfl); k_whole); intro t') | (k_dflt (refine' strs_item ?k1x12 ?k2x12 ?k3x12 ?k4x12 ?_ ?k5x12; (case k1x12 => with_reducible assumption); (case k2x12 => k_asm); (case k3x12 | k4x12 => first | with_reducible assumption | omega); (case k5x12 => with_unfolding_all rfl); k_whole); intro t') | (k_dflt (refine' ints_item ?k1x12 ?k2x12 ?k3x12 ?k4x12 ?_ ?k5x12; (case k1x12 => with_reducible assumption); (case k2x12 => k_asm); (case k3x12 | k4x12 => first | with_reducible assumption | omega); (case k5x12 => with_unfolding_all rfl); k_whole); intro t') | (k_dflt (refine' two_item0 ?k1x12 ?k2x12 ?_ ?k5x12; (case k1x12 => with_reducible assumption); (case k2x12 => k_asm); (case k5x12 => with_unfolding_all rfl); k_whole)) | (k_dflt (refine' two_item1 ?k1x12 ?k2x12 ?_ ?k5x12; (case k1x12 => with_reducible assumption); (case k2x12 => k_asm); (case k5x12 => with_unfolding_all rfl); k_whole)))
      | with_reducible (k_here; (with_reducible refine meth_encode ?_))
      | with_reducible (k_here; (with_reducible show wpAny _ _ (call (Value.builtin "str.encode") [Value.str _ _, Value.str _ _]) _ _ _); (refine call_encode (by (first | assumption | exact hexOf_low _)) (by (first | assumption | omega | (simp only [List.size_toArray, hexOf_length, Array.length_toList]; omega))) ?_); intro t' k')
      | with_reducible (k_here; (with_reducible show wpAny _ _ (call (Value.builtin "bytes.translate") [Value.bytes _ _, Value.bytes _ _]) _ _ _); (refine call_translate (by decide) (by (first | assumption | omega | (simp only [byteArr_size]; omega))) ?_); intro t' k')
      | with_reducible (k_here; (with_reducible show wpAny _ _ (call (Value.builtin "bytes.upper") [Value.bytes _ _]) _ _ _); (refine call_upper (by (first | assumption | omega | (simp only [Array.size_map, List.size_toArray, hexOf_length, Array.length_toList]; omega))) ?_); intro t' k')
      | with_reducible (k_here; (with_reducible show wpAny _ _ (call (Value.builtin "bytes.hex") [Value.bytes _ _]) _ _ _); (refine call_hex (by (first | assumption | omega)) ?_); intro t' k')
      | with_reducible (k_here; first | (with_reducible refine meth_hex ?_) | (with_reducible refine meth_upper ?_) | (with_reducible refine meth_translate ?_))
      | with_reducible (k_here; (with_reducible show wpAny _ _ (call (Value.type "bytes") [Value.ref _]) _ _ _); k_dflt (refine' bytes_push ?kbaFx5 ?kbaNx5 ?kbahx5 ?kbalx5 ?kbaix5 ?kbarx5 ?kbanx5 ?_; (case kbaFx5 | kbaNx5 => k_asm); (case kbahx5 => rfl); (case kbalx5 => k_mem); (case kbaix5 => ((repeat apply ia_push); exact ia_nil)); (case kbarx5 => ((repeat (refine' in_push ?_ ?kax5 ?kbx5; (case kax5 | kbx5 => first | with_reducible assumption | decide))); exact in_nil)); (case kbanx5 => exact Nat.le_of_ble_eq_true rfl)); intro h' t' k' F' N')
      | with_reducible ((with_reducible show wpAny _ _ (storeName _ _ _) _ _ _); k_here; k_dflt (first | (refine' storeI ?Fx4 ?Nx4 ?_ ?ax4 ?bx4; (case Fx4 | Nx4 => k_asm); (case ax4 | bx4 => rfl); k_whole; intro h' t' tk' F' N'; (try k_sweep); (try dsimp only)) | (refine' storeS ?Fx4 ?Nx4 ?_ ?ax4 ?bx4; (case Fx4 | Nx4 => k_asm); (case ax4 | bx4 => rfl); k_whole; intro h' t' tk' F' N'; (try k_sweep); (try dsimp only)) | (refine' storeB ?Fx4 ?Nx4 ?_ ?ax4 ?bx4; (case Fx4 | Nx4 => k_asm); (case ax4 | bx4 => rfl); k_whole; intro h' t' tk' F' N'; (try k_sweep); (try dsimp only))))
      | with_reducible ((with_reducible show wpAny _ _ (binaryOp Operator.LShift (Value.int _ _) (Value.int _ _)) _ _ _); k_here; (with_reducible refine' lshift_int_small ?kb1x3 ?kb2x3 ?kb3x3 ?_); (case kb1x3 | kb2x3 => decide); (case kb3x3 => ((try simp only [bitAnd_m16, bitAnd_m2, bitAnd_m4]); omega)))
      | with_reducible ((with_reducible show wpAny _ _ (pyIter (Value.bytes _ _)) _ _ _); (with_reducible show wpAny _ _ (pyIter (Value.bytes _ _)) (fun it s₂ => LoopAtV _ _ _ _ _ _ _ _ _ it s₂) _ _); k_here; k_bytesUnr)
      | with_reducible (k_here; (with_reducible show wpAny _ _ (call (Value.type "type") [Value.bytes _ _]) _ _ _); refine call_type_of (typeIs_bytes _ _ _) (by decide) ?_)
      | with_reducible (k_here; (with_reducible refine floordiv_int (p256_ne ?kbex0) ?_ (Or.inl (PyProof.noPylong_small (p256_small ?kbpx0)))); (case kbex0 | kbpx0 => omega))
      | walk1
      | (dsimp only)
      | (leave1; walk_say "STEP leave1"; try dsimp only)
      | fail "no step"))
  all_goals exact ret _ _ _ (Fr.keep (by assumption)) rfl
end Mine
end

section
open PySem PySem.W PyProof.Rows PySem.Calls
set_option maxRecDepth 100000
namespace Mine
theorem fresh_of {h : Heap} {a : Addr} (ha : h.objs.size ≤ a) : h.get? a = none := by
  cases e : h.get? a with
  | none => rfl
  | some o' => exact absurd (Heap.lt_size e) (Nat.not_lt.mpr ha)
theorem ia_snoc {ys : List Value} {ns : List Int} (h : IntsAre ys ns) (n : Int) (t : Tok) : IntsAre (ys ++ [.int n t]) (ns ++ [n]) := by
  induction h with
  | nil => exact .cons _ _ .nil
  | cons m u _ ih => exact .cons _ _ ih
theorem n20 (I : Nat) : I + 2 ≠ I := by omega
theorem n02 (I : Nat) : I ≠ I + 2 := by omega
theorem n10 (I : Nat) : I + 1 ≠ I := by omega
theorem n01 (I : Nat) : I ≠ I + 1 := by omega
theorem n12 (I : Nat) : I + 1 ≠ I + 2 := by omega
theorem n21 (I : Nat) : I + 2 ≠ I + 1 := by omega
theorem lt2 {c I : Nat} (h : c < I) : c ≠ I + 2 := by omega
theorem lt1 {c I : Nat} (h : c < I) : c ≠ I + 1 := by omega
theorem le1 (I : Nat) : I ≤ I + 1 := by omega
section
variable {prog : Program} {w : World} {A : Around} {E : Value → Shared → Prop} {s : Shared} {env : Env}
/-- a comprehension over pairs, ints out: all that stands stays -/
theorem comp_pairs {elt iter : Expr} {x x₂ : Str} {px px₂ tp : Pos} {kk : Nat} {scope : Scope} {cl : List (Str × Addr)} {pos : Pos} {ax : Addr} {refs : List Addr} {ks : List (Int × Int)} {f : Int × Int → Int} {Q : Value → Shared → Prop}
    (hh : A.handled = none) (hclos : closureFor scope env = pure cl) (hcell : ∀ y ∈ scope.names, y.2 ≠ .cell) (hkind : scope.kind = .function)
    (hnames : ∀ y ∈ scope.names, y.2 = .local → scope.names.lookup y.1 = some .local) (hx : scope.names.lookup x = some .local) (hx₂ : scope.names.lookup x₂ = some .local) (hxx : x ≠ x₂)
    (hv : wpAny (model prog w) A (eval iter env) (fun xv s₁ => xv = .ref ax ∧ s₁ = s) E s) (hT : IsTup s.heap ax (refs.map Value.ref).toArray) (hP : All2 (PairAt s.heap) refs ks) (hfew : ks.length ≤ 3)
    (turn : ∀ (i : Nat) (k : Int × Int) (C : Addr) (h : Heap) (tk : Nat) (m₂ : Str → Option Value) t1 t2 (E' : Value → Shared → Prop), ks[i]? = some k → Keeps s.heap h → h.Ns C m₂ → m₂ x = some (.int k.1 t1) → m₂ x₂ = some (.int k.2 t2) →
      wpAny (model prog w) A (eval elt (compEnvC scope cl C env)) (fun y s₄ => (∃ t', y = .int (f k) t') ∧ ∃ h' tk', s₄ = { s with heap := h', toks := tk' } ∧ Keeps h h') E' { s with heap := h, toks := tk })
    (fin : ∀ D h tk ys, Keeps s.heap h → s.heap.get? D = none → h.get? D = some (LCg.lst ys) → IntsAre ys (ks.map f) → Q (.ref D) { s with heap := h, toks := tk })
    (hs : ∀ x, foldedSetIterable iter env x = pure x := by intro _; rfl) :
    wpAny (model prog w) A (eval (.ListComp elt [⟨.Tuple [.Name x px, .Name x₂ px₂] kk tp, iter, [], 0⟩] scope pos) env) Q E s := by
  rw [eval_ListComp]
  refine wpAny_comprehension_free (use := none) rfl hs hclos hkind hnames (wpAny_mono hv (fun xv s₁ h₁ => ?_) fun _ _ e => e)
  obtain ⟨rfl, rfl⟩ := h₁
  refine wpAny_pyIter_tuple hT ?_
  refine wpAny_newObj_type (wpAny_newFunctionEnv hcell (by intro y hy; simp at hy) (fun h₁ hns₁ hsb₁ => ?_) hkind)
  have hlt : ax < s₁.heap.objs.size := by obtain ⟨_, e, _⟩ := hT; exact Heap.lt_size e
  generalize hI : s₁.heap.objs.size = I at *
  generalize hH1 : s₁.heap.push { cls := .type "tuple_iterator", data := .fields #[.ref ax, .int 0 0] } = H1 at hns₁ hsb₁ ⊢
  have sz1 : H1.objs.size = I + 1 := by rw [← hH1, Heap.size_push, hI]
  have k1 : Keeps s₁.heap H1 := fun b o e => hH1 ▸ Heap.get?_push_of_some _ e
  have i1 : H1.get? I = some { cls := .type "tuple_iterator", data := .fields #[.ref ax, .int 0 0] } := by rw [← hH1, ← hI]; exact Heap.get?_push_size _ rfl
  dsimp only at hns₁ hsb₁ ⊢
  generalize hH2 : H1.push { cls := .type "list", dict := none, data := .seq ([] : List Value).toArray } = H2 at hns₁ hsb₁ ⊢
  have sz2 : H2.objs.size = I + 2 := by rw [← hH2, Heap.size_push, sz1]
  have k2 : Keeps H1 H2 := fun b o e => hH2 ▸ Heap.get?_push_of_some _ e
  have d2 : H2.get? (I + 1) = some (LCg.lst []) := by rw [← hH2, ← sz1]; exact Heap.get?_push_size _ rfl
  rw [sz2] at hns₁ hsb₁
  have k3 : Keeps H2 h₁ := fun b o e => hsb₁.extBut b o (by have := Heap.lt_size e; rw [sz2] at this; exact Nat.ne_of_lt this) (Heap.get?_push_of_some _ e)
  have W := Walks.tuple (prog := prog) (w := w) hh I ax (Nat.ne_of_lt hlt) (refs.map Value.ref).toArray
  have hlen : (refs.map Value.ref).toArray.size = ks.length := by simp [hP.length]
  rw [hlen] at W
  have st1 : h₁.IsTupleIter I ax 0 ∧ h₁.IsTuple ax (refs.map Value.ref).toArray := ⟨⟨_, k3 _ _ (k2 _ _ i1), rfl, rfl⟩, hT.keeps fun b o e => k3 _ _ (k2 _ _ (k1 _ _ e))⟩
  rw [sz1, sz2]
  have loop : ∀ s₃ : Shared, s₃ = { s₁ with heap := h₁, toks := s₁.toks + ([] : List (Str × Value)).length } →
      codeAny (model prog w) A (.compLoop (.ListComp elt [⟨.Tuple [.Name x px, .Name x₂ px₂] kk tp, iter, [], 0⟩] scope pos) 0 (.ref I) (.ref (I + 1)) (compEnvC scope cl (I + 2) env))
        (compPost (model prog w) A E none Q (.ref (I + 1)) (I + 2)) s₃ := by
    rintro s₃ rfl
    refine LCp.codeAny_compLoop_pair
      (fun q s' => ∃ h' tk i ys m', s' = { s₁ with heap := h', toks := tk } ∧ i ≤ ks.length ∧ q = ks.length + 1 - i ∧ (h'.IsTupleIter I ax i ∧ h'.IsTuple ax (refs.map Value.ref).toArray) ∧ Keeps s₁.heap h' ∧ h'.Ns (I + 2) m' ∧ h'.get? (I + 1) = some (LCg.lst ys) ∧ IntsAre ys ((ks.take i).map f)) ?_ (ks.length + 1)
      ⟨h₁, _, 0, [], _, rfl, Nat.zero_le _, rfl, st1, (k1.trans k2).trans k3, hns₁, k3 _ _ d2, .nil⟩
    rintro q s' ⟨h', tk, i, ys, m', rfl, hi, rfl, hst', hK, hn', hD, hy⟩
    by_cases hlt' : i < ks.length
    · refine W.item i _ _ _ hlt' hst' fun v h₂ tk₂ hPv hst₂ hk₂ => ?_
      have hv' : (refs.map Value.ref)[i]? = some v := by simpa using hPv
      rw [List.getElem?_map] at hv'
      obtain ⟨b, hb, rfl⟩ := Option.map_eq_some_iff.mp hv'
      obtain ⟨k, hk, u, u', hTb⟩ := hP.get hb
      have hK2 : Keeps s₁.heap h₂ := fun c o e => hk₂ c o (by intro hm; rw [List.mem_singleton.mp hm, fresh_of (by rw [hI]; exact Nat.le_refl _)] at e; cases e) (hK c o e)
      have hn2 : h₂.Ns (I + 2) m' := hn'.at' fun o e => hk₂ _ o (fun hm => n20 I (List.mem_singleton.mp hm)) e
      have hD2 : h₂.get? (I + 1) = some (LCg.lst ys) := hk₂ _ _ (fun hm => n10 I (List.mem_singleton.mp hm)) hD
      refine letGo_tupleiter hst₂.1 ?_
      refine kcp_assign hh (hTb.keeps hK2) (lookup_relabel_local hx) (lookup_relabel_local hx₂) (by simp [compEnvC, relabel, hkind]) hn2 fun h₃ tk₃ hn₃ hs₃ => ?_
      have hs₃' : ∀ c o, c ≠ I + 2 → h₂.get? c = some o → h₃.get? c = some o := fun c o hc e => hs₃ c o hc e
      have hK3 : Keeps s₁.heap h₃ := fun c o e => hs₃' c o (by have := Heap.lt_size e; rw [hI] at this; exact lt2 this) (hK2 c o e)
      have hD3 : h₃.get? (I + 1) = some (LCg.lst ys) := hs₃' _ _ (n12 I) hD2
      have hst₃ : h₃.IsTupleIter I ax (i + 1) ∧ h₃.IsTuple ax (refs.map Value.ref).toArray := W.frame _ _ _ hst₂ fun c hc o e => hs₃' c o (by
        rcases List.mem_cons.mp hc with rfl | hc
        · exact n02 _
        · rw [List.mem_singleton.mp hc]; exact lt2 hlt) e
      refine wpAny_mono (turn i k (I + 2) h₃ tk₃ _ u u' _ hk hK3 hn₃ (by simp [hxx]) (by simp)) (fun y s₄ h₄ => ?_) fun _ _ e => e
      obtain ⟨⟨t', rfl⟩, h₅, tk₅, rfl, hK5⟩ := h₄
      refine append_at (hK5 _ _ hD3) (fun h₆ hs₆ hD₆ => ?_) (by rw [List.size_toArray]; have := hy.length; simp only [List.length_map, List.length_take] at this; rw [this, sizeLine_eq]; omega)
      refine ⟨ks.length + 1 - (i + 1), by omega, h₆, tk₅, i + 1, ys ++ [.int (f k) t'], _, rfl, hlt', rfl, ?_, ?_, (hn₃.keeps hK5).sameBut hs₆ (n21 I), hD₆.trans (congrArg some (LCg.lst_snoc ys _)), ?_⟩
      · exact W.frame _ _ _ (W.frame _ _ _ hst₃ fun c _ o e => hK5 c o e) fun c hc o e => hs₆.extBut c o (by
          rcases List.mem_cons.mp hc with rfl | hc
          · exact n01 _
          · rw [List.mem_singleton.mp hc]; exact lt1 hlt) e
      · exact fun c o e => hs₆.extBut c o (by have := Heap.lt_size e; rw [hI] at this; exact lt1 this) (hK5 c o (hK3 c o e))
      · rw [List.take_add_one, hk, List.map_append]
        exact ia_snoc hy _ _
    · obtain rfl : i = ks.length := Nat.le_antisymm hi (Nat.not_lt.mp hlt')
      refine W.done _ _ _ hst' fun h₂ tk₂ hk₂ => ?_
      have hK2 : Keeps s₁.heap h₂ := fun c o e => hk₂ c o (by intro hm; rw [List.mem_singleton.mp hm, fresh_of (by rw [hI]; exact Nat.le_refl _)] at e; cases e) (hK c o e)
      rw [List.take_length] at hy
      refine ⟨m', hn'.at' fun o e => hk₂ _ o (fun hm => n20 I (List.mem_singleton.mp hm)) e, fun h₃ hs₃ => ?_⟩
      refine fin (I + 1) h₃ tk₂ ys ?_ (fresh_of (by rw [hI]; exact le1 I)) ?_ hy
      · exact fun c o e => hs₃.extBut c o (by have := Heap.lt_size e; rw [hI] at this; exact lt2 this) (hK2 c o e)
      · exact hs₃.extBut _ _ (n12 I) (hk₂ _ _ (fun hm => n10 I (List.mem_singleton.mp hm)) hD)
  exact codeAny_compStart_list (loop _ rfl) (W.self 0 _ _ _ st1 (loop _ rfl))
end
end Mine
end

section
open PySem PySem.W PyProof.Rows PySem.Calls
set_option maxRecDepth 100000
namespace Mine
theorem n30 (I : Nat) : I + 3 ≠ I := by omega
theorem n03 (I : Nat) : I ≠ I + 3 := by omega
theorem n13 (I : Nat) : I + 1 ≠ I + 3 := by omega
theorem n23 (I : Nat) : I + 2 ≠ I + 3 := by omega
theorem n31 (I : Nat) : I + 3 ≠ I + 1 := by omega
theorem n32 (I : Nat) : I + 3 ≠ I + 2 := by omega
theorem lt3 {c I : Nat} (h : c < I) : c ≠ I + 3 := by omega
theorem lt0 {c I : Nat} (h : c < I) : c ≠ I := by omega
abbrev cellO (v : Option Value) : Obj := { cls := .type "cell", data := .cell v }
/-- tuples stay -/
def TupKeep (h h' : Heap) : Prop := ∀ b o items n, h.get? b = some o → o.cls = .type "tuple" → o.data = .seq items n → h'.get? b = some o
theorem TupKeep.of {h h' : Heap} (k : Keeps h h') : TupKeep h h' := fun b o _ _ e _ _ => k b o e
theorem TupKeep.but {h h' : Heap} {a : Addr} (oa : Obj) (ha : h.get? a = some oa) (hno : ∀ items n, oa.cls = .type "tuple" → oa.data = .seq items n → False) (k : ∀ b o, b ≠ a → h.get? b = some o → h'.get? b = some o) : TupKeep h h' := fun b o items n e hc hd => by
  refine k b o (fun eb => ?_) e
  subst eb
  rw [ha] at e; cases e
  exact hno items n hc hd
section
variable {prog : Program} {w : World} {A : Around} {E : Value → Shared → Prop} {s : Shared} {env : Env}
theorem newEnv_cell {M : Model} {scope : Scope} {globals : Addr} {cl : List (Str × Addr)} {qual : Str} {x : Str} {Q : Env → Shared → Prop}
    (hc : ∀ n acc, cellsFrom n scope.names acc = (x, n) :: acc) (hp : ∀ h, pushCells h scope.names = h.push (cellO none))
    (hQ : Q { scope := scope, locals := s.heap.objs.size, globals := globals, cells := (x, s.heap.objs.size + 1) :: cl, qual := qual, func := none, code := env.code, frame := env.frame, builtins := env.builtins }
      { s with heap := (s.heap.push { cls := .type "dict", data := .dict #[] }).push (cellO none) }) :
    wpAny M A (newFunctionEnv scope globals cl [] qual none .none (some env)) Q E s := by
  simp only [newFunctionEnv, Option.isSome_some, if_true]
  refine wpAny_bind (wpAny_alloc ?_)
  refine wpAny_bind (wpAny_layCells _ (fun name kind cells => by cases hkc : kind == NameKind.cell <;> simp [hkc]) _ _ _ _ ?_)
  rw [hc, hp]
  refine wpAny_bind ?_
  rw [List.forIn_nil]
  refine wpAny_pure (wpAny_pure ?_)
  have e : ({ s with heap := s.heap.push { cls := .type "dict", data := .dict #[] } } : Shared).heap.objs.size = s.heap.objs.size + 1 := Heap.size_push ..
  rw [e]
  exact hQ
end
end Mine
end

section
open PySem PySem.W PyProof.Rows PySem.Calls
set_option maxRecDepth 100000
namespace Mine
theorem TupKeep.trans {a b c : Heap} (x : TupKeep a b) (y : TupKeep b c) : TupKeep a c := fun p o i n e hc hd => y p o i n (x p o i n e hc hd) hc hd
theorem TupKeep.ns {h h' : Heap} {C : Addr} {m : Str → Option Value} (hn : h.Ns C m) (k : ∀ b o, b ≠ C → h.get? b = some o → h'.get? b = some o) : TupKeep h h' := by
  obtain ⟨o, es, ep, ho, hr⟩ := hn
  refine TupKeep.but o ho (fun items n _ hd => ?_) k
  have := hr.1
  simp_all
theorem TupKeep.cell {h h' : Heap} {c : Addr} {v : Option Value} (hc : h.IsCell c v) (k : ∀ b o, b ≠ c → h.get? b = some o → h'.get? b = some o) : TupKeep h h' := by
  obtain ⟨o, ho, hd⟩ := hc
  refine TupKeep.but o ho (fun items n _ hd' => ?_) k
  rw [hd] at hd'; cases hd'
theorem TupKeep.lst {h h' : Heap} {c : Addr} {ys : List Value} (hc : h.get? c = some (LCg.lst ys)) (k : ∀ b o, b ≠ c → h.get? b = some o → h'.get? b = some o) : TupKeep h h' :=
  TupKeep.but _ hc (fun items n hcl _ => by simp [LCg.lst] at hcl) k
theorem TupKeep.it {h h' : Heap} {c l : Addr} {i : Nat} (hc : h.IsListIter c l i) (k : ∀ b o, b ∉ [c] → h.get? b = some o → h'.get? b = some o) : TupKeep h h' := by
  obtain ⟨o, ho, hcl, hd⟩ := hc
  refine TupKeep.but o ho (fun items n hcl' _ => ?_) fun b o' hb => k b o' (fun hm => hb (List.mem_singleton.mp hm))
  rw [hcl] at hcl'; revert hcl'; decide
section
variable {prog : Program} {w : World} {A : Around} {E : Value → Shared → Prop} {s : Shared} {env : Env} {h₀ : Heap} {m : Str → Option Value} {news : List (Addr × Obj)}
/-- y = [elt for x in list], x caught by an inner block: all that stands stays, but the frame's names -/
theorem assign_comp_cell {elt iter : Expr} {x y : Str} {px py : Pos} {scope : Scope} {cl : List (Str × Addr)} {pos spos : Pos} {ax : Addr} {items : Array Value} {Res : Nat → Value → Heap → Prop} {Q : Flow → Shared → Prop}
    (hh : A.handled = none) (hsw : swapsWith (.ListComp elt [⟨.Name x px, iter, [], 0⟩] scope pos) (some (.Name y py)) spos.line env = pure true)
    (hclos : closureFor scope env = pure cl) (hc : ∀ n acc, cellsFrom n scope.names acc = (x, n) :: acc) (hpc : ∀ h, pushCells h scope.names = h.push (cellO none)) (hkind : scope.kind = .function)
    (hnames : ∀ z ∈ scope.names, z.2 = .local → scope.names.lookup z.1 = some .local) (hx : (relabel scope env).names.lookup x = some .cell)
    (hy : env.kindOf y = some .local) (hp : (env.scope.kind == .class || (env.scope.kind == .module && env.locals != env.globals)) = false)
    (hv : wpAny (model prog w) A (eval iter env) (fun xv s₁ => xv = .ref ax ∧ s₁ = s) E s) (hL : s.heap.IsList ax items) (hfew : items.size ≤ 12)
    (F : Fr h₀ env.locals s.heap m) (N : News h₀ env.locals s.heap news)
    (mono : ∀ j v h h', TupKeep h h' → Res j v h → Res j v h')
    (turn : ∀ (i : Nat) (v : Value) (C c : Addr) (h : Heap) (tk : Nat) (m₂ : Str → Option Value) (E' : Value → Shared → Prop), items[i]? = some v → Keeps s.heap h → h.Ns C m₂ → h.IsCell c (some v) →
      wpAny (model prog w) A (eval elt (compEnvC scope ((x, c) :: cl) C env)) (fun y s₄ => ∃ h' tk', s₄ = { s with heap := h', toks := tk' } ∧ Keeps h h' ∧ Res i y h') E' { s with heap := h, toks := tk })
    (fin : ∀ D h tk zs, zs.length = items.size → (∀ j z, zs[j]? = some z → Res j z h) → TupKeep s.heap h → Fr h₀ env.locals h (fun z => if z = y then some (.ref D) else m z) → News h₀ env.locals h ((D, LCg.lst zs) :: news) → Q .next { s with heap := h, toks := tk })
    (hs : ∀ x, foldedSetIterable iter env x = pure x := by intro _; rfl) :
    wpAny (model prog w) A (exec (.Assign [.Name y py] (.ListComp elt [⟨.Name x px, iter, [], 0⟩] scope pos) spos) env) Q E s := by
  rw [exec_Assign_Name_used _ _ _ _ hsw]
  refine wpAny_bind (wpAny_standAt (wpAny_bind ?_))
  show wpAny _ A (do let _ ← comprehension (.ListComp elt [⟨.Name x px, iter, [], 0⟩] scope pos) scope env _ (newList []) false (eval iter env) (some (assign (.Name y py) env))) _ _ s
  refine wpAny_bind (wpAny_mono (wpAny_comprehension_free (use := some (assign (.Name y py) env)) (Q := fun _ s' => Q .next s') rfl hs hclos hkind hnames (wpAny_mono hv (fun xv s₁ h₁ => ?_) fun _ _ e => e)) (fun _ s' h' => wpAny_pure (wpAny_pure h')) fun _ _ e => e)
  obtain ⟨rfl, rfl⟩ := h₁
  refine wpAny_pyIter_list hL ?_
  refine wpAny_newObj_type (newEnv_cell hc hpc ?_)
  have hlt : ax < s₁.heap.objs.size := by obtain ⟨_, e, _⟩ := hL; exact Heap.lt_size e
  have hLlt : env.locals < s₁.heap.objs.size := F.ns.lt
  generalize hI : s₁.heap.objs.size = I at *
  generalize hH1 : s₁.heap.push { cls := .type "list_iterator", data := .fields #[.ref ax, .int 0 0] } = H1
  have sz1 : H1.objs.size = I + 1 := by rw [← hH1, Heap.size_push, hI]
  have k1 : Keeps s₁.heap H1 := fun b o e => hH1 ▸ Heap.get?_push_of_some _ e
  have i1 : H1.get? I = some { cls := .type "list_iterator", data := .fields #[.ref ax, .int 0 0] } := by rw [← hH1, ← hI]; exact Heap.get?_push_size _ rfl
  dsimp only
  generalize hH2 : H1.push { cls := .type "list", dict := none, data := .seq ([] : List Value).toArray } = H2
  have sz2 : H2.objs.size = I + 2 := by rw [← hH2, Heap.size_push, sz1]
  have k2 : Keeps H1 H2 := fun b o e => hH2 ▸ Heap.get?_push_of_some _ e
  have d2 : H2.get? (I + 1) = some (LCg.lst []) := by rw [← hH2, ← sz1]; exact Heap.get?_push_size _ rfl
  generalize hH3 : H2.push { cls := .type "dict", data := .dict #[] } = H3
  have sz3 : H3.objs.size = I + 3 := by rw [← hH3, Heap.size_push, sz2]
  have k3 : Keeps H2 H3 := fun b o e => hH3 ▸ Heap.get?_push_of_some _ e
  have d3 : H3.Ns (I + 2) (fun _ => none) := by
    rw [← hH3, ← sz2]
    exact Heap.Ns.new ..
  generalize hH4 : H3.push (cellO none) = H4
  have k4 : Keeps H3 H4 := fun b o e => hH4 ▸ Heap.get?_push_of_some _ e
  have c4 : H4.IsCell (I + 3) none := ⟨_, by rw [← hH4, ← sz3]; exact Heap.get?_push_size _ rfl, rfl⟩
  have W := Walks.list (prog := prog) (w := w) hh I ax (Nat.ne_of_lt hlt) items
  have st1 : H4.IsListIter I ax 0 ∧ H4.IsList ax items := ⟨⟨_, k4 _ _ (k3 _ _ (k2 _ _ i1)), rfl, rfl⟩, hL.at fun o e => k4 _ _ (k3 _ _ (k2 _ _ (k1 _ _ e)))⟩
  rw [sz1, sz2]
  have hkc : (compEnvC scope ((x, I + 3) :: cl) (I + 2) env).scope.kind = .function := hkind
  have loop : ∀ s₃ : Shared, s₃ = { s₁ with heap := H4 } →
      codeAny (model prog w) A (.compLoop (.ListComp elt [⟨.Name x px, iter, [], 0⟩] scope pos) 0 (.ref I) (.ref (I + 1)) (compEnvC scope ((x, I + 3) :: cl) (I + 2) env))
        (compPost (model prog w) A E (some (assign (.Name y py) env)) (fun _ s' => Q .next s') (.ref (I + 1)) (I + 2)) s₃ := by
    rintro s₃ rfl
    refine codeAny_compLoop_tests
      (fun q s' => ∃ h' tk i zs m' v₀, s' = { s₁ with heap := h', toks := tk } ∧ i ≤ items.size ∧ q = items.size + 1 - i ∧ (h'.IsListIter I ax i ∧ h'.IsList ax items) ∧ Keeps s₁.heap h' ∧ h'.Ns (I + 2) m' ∧ h'.IsCell (I + 3) v₀ ∧ h'.get? (I + 1) = some (LCg.lst zs) ∧ zs.length = i ∧ ∀ j z, zs[j]? = some z → Res j z h') ?_ (items.size + 1)
      ⟨H4, _, 0, [], _, _, rfl, Nat.zero_le _, rfl, st1, ((k1.trans k2).trans k3).trans k4, d3.keeps k4, c4, k4 _ _ (k3 _ _ d2), rfl, fun j z hz => by simp at hz⟩
    rintro q s' ⟨h', tk, i, zs, m', v₀, rfl, hi, rfl, hst', hK, hn', hcl', hD, hz, hR⟩
    by_cases hlt' : i < items.size
    · refine W.item i _ _ _ hlt' hst' fun v h₂ tk₂ hPv hst₂ hk₂ => ?_
      have hT2 : TupKeep h' h₂ := .it hst'.1 hk₂
      have hK2 : Keeps s₁.heap h₂ := fun c o e => hk₂ c o (by intro hm; rw [List.mem_singleton.mp hm, fresh_of (by rw [hI]; exact Nat.le_refl _)] at e; cases e) (hK c o e)
      have hn2 : h₂.Ns (I + 2) m' := hn'.at' fun o e => hk₂ _ o (fun hm => n20 I (List.mem_singleton.mp hm)) e
      have hD2 : h₂.get? (I + 1) = some (LCg.lst zs) := hk₂ _ _ (fun hm => n10 I (List.mem_singleton.mp hm)) hD
      have hc2 : h₂.IsCell (I + 3) v₀ := let ⟨o, ho, hd⟩ := hcl'; ⟨o, hk₂ _ o (fun hm => n30 I (List.mem_singleton.mp hm)) ho, hd⟩
      refine wpAny_assign_Name (wpAny_storeName_cell hkc hx (by simp [compEnvC, List.lookup]) hc2 fun h₃ hc3 hs₃ => wpAny_tests_nil ?_)
      rw [if_pos rfl]
      have hs₃' : ∀ c o, c ≠ I + 3 → h₂.get? c = some o → h₃.get? c = some o := fun c o hc e => hs₃.extBut c o hc e
      have hT3 : TupKeep h₂ h₃ := .cell hc2 hs₃'
      have hK3 : Keeps s₁.heap h₃ := fun c o e => hs₃' c o (by have := Heap.lt_size e; rw [hI] at this; exact lt3 this) (hK2 c o e)
      have hn3 : h₃.Ns (I + 2) m' := hn2.at' fun o e => hs₃' _ o (n23 I) e
      have hD3 : h₃.get? (I + 1) = some (LCg.lst zs) := hs₃' _ _ (n13 I) hD2
      have hst₃ : h₃.IsListIter I ax (i + 1) ∧ h₃.IsList ax items := W.frame _ _ _ hst₂ fun c hc o e => hs₃' c o (by
        rcases List.mem_cons.mp hc with rfl | hc
        · exact n03 _
        · rw [List.mem_singleton.mp hc]; exact lt3 hlt) e
      refine wpAny_mono (turn i v (I + 2) (I + 3) h₃ tk₂ _ _ hPv hK3 hn3 hc3) (fun y s₄ h₄ => ?_) fun _ _ e => e
      obtain ⟨h₅, tk₅, rfl, hK5, hR5⟩ := h₄
      refine append_at (hK5 _ _ hD3) (fun h₆ hs₆ hD₆ => ?_) (by rw [List.size_toArray, hz, sizeLine_eq]; omega)
      have hT6 : TupKeep h₅ h₆ := .lst (hK5 _ _ hD3) fun b o hb e => hs₆.extBut b o hb e
      refine ⟨items.size + 1 - (i + 1), by omega, h₆, tk₅, i + 1, zs ++ [y], _, _, rfl, hlt', rfl, ?_, ?_, (hn3.keeps hK5).sameBut hs₆ (n21 I), (hc3.keeps hK5).sameBut hs₆ (n31 I), hD₆.trans (congrArg some (LCg.lst_snoc zs _)), by simp [hz], ?_⟩
      · exact W.frame _ _ _ (W.frame _ _ _ hst₃ fun c _ o e => hK5 c o e) fun c hc o e => hs₆.extBut c o (by
          rcases List.mem_cons.mp hc with rfl | hc
          · exact n01 _
          · rw [List.mem_singleton.mp hc]; exact lt1 hlt) e
      · exact fun c o e => hs₆.extBut c o (by have := Heap.lt_size e; rw [hI] at this; exact lt1 this) (hK5 c o (hK3 c o e))
      · intro j z hj
        by_cases hjz : j < zs.length
        · rw [List.getElem?_append_left hjz] at hj
          exact mono _ _ _ _ (((hT2.trans hT3).trans (.of hK5)).trans hT6) (hR j z hj)
        · have hj' := (List.getElem?_eq_some_iff.mp hj).1
          rw [List.length_append] at hj'
          simp only [List.length_singleton] at hj'
          have ej : j = zs.length := by omega
          subst ej
          rw [List.getElem?_append_right (Nat.le_refl _)] at hj
          simp at hj
          subst hj
          rw [hz]
          exact mono _ _ _ _ hT6 hR5
    · obtain rfl : i = items.size := Nat.le_antisymm hi (Nat.not_lt.mp hlt')
      refine W.done _ _ _ hst' fun h₂ tk₂ hk₂ => ?_
      have hT2 : TupKeep h' h₂ := .it hst'.1 hk₂
      have hK2 : Keeps s₁.heap h₂ := fun c o e => hk₂ c o (by intro hm; rw [List.mem_singleton.mp hm, fresh_of (by rw [hI]; exact Nat.le_refl _)] at e; cases e) (hK c o e)
      have hn2 : h₂.Ns (I + 2) m' := hn'.at' fun o e => hk₂ _ o (fun hm => n20 I (List.mem_singleton.mp hm)) e
      have hD2 : h₂.get? (I + 1) = some (LCg.lst zs) := hk₂ _ _ (fun hm => n10 I (List.mem_singleton.mp hm)) hD
      have hnL : h₂.Ns env.locals m := F.ns.keeps hK2
      show wpAny _ A (assign (.Name y py) env (.ref (I + 1))) _ _ _
      refine wpAny_assign_Name (wpAny_storeName_local hy hnL (fun h₃ hn₃ hs₃ => ?_) hp)
      have hn3 : h₃.Ns (I + 2) m' := hn2.sameBut hs₃ (Ne.symm (lt2 hLlt))
      refine ⟨m', hn3, fun h₄ hs₄ => ?_⟩
      have hT4 : TupKeep h₂ h₄ := (TupKeep.ns hnL fun b o hb e => hs₃.extBut b o hb e).trans (.ns hn3 fun b o hb e => hs₄.extBut b o hb e)
      have hD4 : h₄.get? (I + 1) = some (LCg.lst zs) := hs₄.extBut _ _ (n12 I) (hs₃.extBut _ _ (Ne.symm (lt1 hLlt)) hD2)
      have hE : ∀ b o, b ≠ env.locals → s₁.heap.get? b = some o → h₄.get? b = some o := fun b o hb e => hs₄.extBut b o (by have := Heap.lt_size e; rw [hI] at this; exact lt2 this) (hs₃.extBut b o hb (hK2 b o e))
      refine fin (I + 1) h₄ _ zs hz (fun j z hj => mono _ _ _ _ (hT2.trans hT4) (hR j z hj)) ((TupKeep.of hK2).trans hT4) ⟨hn₃.sameBut hs₄ (lt2 hLlt), fun b o e => hE b o (Nat.ne_of_lt (Nat.lt_of_lt_of_le (Heap.lt_size e) F.above)) (F.keep b o e), F.above⟩ ?_
      intro p hp'
      rcases List.mem_cons.mp hp' with rfl | hp'
      · refine ⟨hD4, Ne.symm (lt1 hLlt), ?_⟩
        cases e : h₀.get? (I + 1) with
        | none => rfl
        | some o' => exact absurd (Heap.lt_size (F.keep _ _ e)) (by rw [hI]; exact Nat.not_lt.mpr (le1 I))
      · exact ⟨hE _ _ (N p hp').2.1 (N p hp').1, (N p hp').2.1, (N p hp').2.2⟩
  exact codeAny_compStart_list (loop _ rfl) (W.self 0 _ _ _ st1 (loop _ rfl))
end
end Mine
end

section
open PySem PySem.W PyProof.Rows PySem.Calls
set_option maxRecDepth 100000
namespace Mine
section
variable {prog : Program} {w : World} {A : Around} {E : Value → Shared → Prop} {s : Shared} {env : Env} {h₀ : Heap} {m : Str → Option Value} {news : List (Addr × Obj)}
/-- y = [elt for x in list], x the block's own: all that stands stays, but the frame's names -/
theorem assign_comp_local {elt iter : Expr} {x y : Str} {px py : Pos} {scope : Scope} {cl : List (Str × Addr)} {pos spos : Pos} {ax : Addr} {items : Array Value} {Res : Nat → Value → Heap → Prop} {Q : Flow → Shared → Prop}
    (hh : A.handled = none) (hsw : swapsWith (.ListComp elt [⟨.Name x px, iter, [], 0⟩] scope pos) (some (.Name y py)) spos.line env = pure true)
    (hclos : closureFor scope env = pure cl) (hcell : ∀ y ∈ scope.names, y.2 ≠ .cell) (hkind : scope.kind = .function)
    (hnames : ∀ z ∈ scope.names, z.2 = .local → scope.names.lookup z.1 = some .local) (hx : scope.names.lookup x = some .local)
    (hy : env.kindOf y = some .local) (hp : (env.scope.kind == .class || (env.scope.kind == .module && env.locals != env.globals)) = false)
    (hv : wpAny (model prog w) A (eval iter env) (fun xv s₁ => xv = .ref ax ∧ s₁ = s) E s) (hL : s.heap.IsList ax items) (hfew : items.size ≤ 12)
    (F : Fr h₀ env.locals s.heap m) (N : News h₀ env.locals s.heap news)
    (mono : ∀ j v h h', TupKeep h h' → Res j v h → Res j v h')
    (turn : ∀ (i : Nat) (v : Value) (C : Addr) (h : Heap) (tk : Nat) (m₂ : Str → Option Value) (E' : Value → Shared → Prop), items[i]? = some v → Keeps s.heap h → h.Ns C m₂ → m₂ x = some v →
      wpAny (model prog w) A (eval elt (compEnvC scope cl C env)) (fun y s₄ => ∃ h' tk', s₄ = { s with heap := h', toks := tk' } ∧ Keeps h h' ∧ Res i y h') E' { s with heap := h, toks := tk })
    (fin : ∀ D h tk zs, zs.length = items.size → (∀ j z, zs[j]? = some z → Res j z h) → TupKeep s.heap h → Fr h₀ env.locals h (fun z => if z = y then some (.ref D) else m z) → News h₀ env.locals h ((D, LCg.lst zs) :: news) → Q .next { s with heap := h, toks := tk })
    (hs : ∀ x, foldedSetIterable iter env x = pure x := by intro _; rfl) :
    wpAny (model prog w) A (exec (.Assign [.Name y py] (.ListComp elt [⟨.Name x px, iter, [], 0⟩] scope pos) spos) env) Q E s := by
  rw [exec_Assign_Name_used _ _ _ _ hsw]
  refine wpAny_bind (wpAny_standAt (wpAny_bind ?_))
  show wpAny _ A (do let _ ← comprehension (.ListComp elt [⟨.Name x px, iter, [], 0⟩] scope pos) scope env _ (newList []) false (eval iter env) (some (assign (.Name y py) env))) _ _ s
  refine wpAny_bind (wpAny_mono (wpAny_comprehension_free (use := some (assign (.Name y py) env)) (Q := fun _ s' => Q .next s') rfl hs hclos hkind hnames (wpAny_mono hv (fun xv s₁ h₁ => ?_) fun _ _ e => e)) (fun _ s' h' => wpAny_pure (wpAny_pure h')) fun _ _ e => e)
  obtain ⟨rfl, rfl⟩ := h₁
  refine wpAny_pyIter_list hL ?_
  refine wpAny_newObj_type (wpAny_newFunctionEnv hcell (by intro y hy; simp at hy) (fun h₁ hns₁ hsb₁ => ?_) hkind)
  have hlt : ax < s₁.heap.objs.size := by obtain ⟨_, e, _⟩ := hL; exact Heap.lt_size e
  have hLlt : env.locals < s₁.heap.objs.size := F.ns.lt
  generalize hI : s₁.heap.objs.size = I at *
  generalize hH1 : s₁.heap.push { cls := .type "list_iterator", data := .fields #[.ref ax, .int 0 0] } = H1 at hns₁ hsb₁ ⊢
  have sz1 : H1.objs.size = I + 1 := by rw [← hH1, Heap.size_push, hI]
  have k1 : Keeps s₁.heap H1 := fun b o e => hH1 ▸ Heap.get?_push_of_some _ e
  have i1 : H1.get? I = some { cls := .type "list_iterator", data := .fields #[.ref ax, .int 0 0] } := by rw [← hH1, ← hI]; exact Heap.get?_push_size _ rfl
  dsimp only at hns₁ hsb₁ ⊢
  generalize hH2 : H1.push { cls := .type "list", dict := none, data := .seq ([] : List Value).toArray } = H2 at hns₁ hsb₁ ⊢
  have sz2 : H2.objs.size = I + 2 := by rw [← hH2, Heap.size_push, sz1]
  have k2 : Keeps H1 H2 := fun b o e => hH2 ▸ Heap.get?_push_of_some _ e
  have d2 : H2.get? (I + 1) = some (LCg.lst []) := by rw [← hH2, ← sz1]; exact Heap.get?_push_size _ rfl
  rw [sz2] at hns₁ hsb₁
  have k3 : Keeps H2 h₁ := fun b o e => hsb₁.extBut b o (by have := Heap.lt_size e; rw [sz2] at this; exact Nat.ne_of_lt this) (Heap.get?_push_of_some _ e)
  have W := Walks.list (prog := prog) (w := w) hh I ax (Nat.ne_of_lt hlt) items
  have st1 : h₁.IsListIter I ax 0 ∧ h₁.IsList ax items := ⟨⟨_, k3 _ _ (k2 _ _ i1), rfl, rfl⟩, hL.at fun o e => k3 _ _ (k2 _ _ (k1 _ _ e))⟩
  rw [sz1, sz2]
  have hpc : ((compEnvC scope cl (I + 2) env).scope.kind == .class || ((compEnvC scope cl (I + 2) env).scope.kind == .module && (compEnvC scope cl (I + 2) env).locals != (compEnvC scope cl (I + 2) env).globals)) = false := by simp [compEnvC, relabel, hkind]
  have loop : ∀ s₃ : Shared, s₃ = { s₁ with heap := h₁, toks := s₁.toks + ([] : List (Str × Value)).length } →
      codeAny (model prog w) A (.compLoop (.ListComp elt [⟨.Name x px, iter, [], 0⟩] scope pos) 0 (.ref I) (.ref (I + 1)) (compEnvC scope cl (I + 2) env))
        (compPost (model prog w) A E (some (assign (.Name y py) env)) (fun _ s' => Q .next s') (.ref (I + 1)) (I + 2)) s₃ := by
    rintro s₃ rfl
    refine codeAny_compLoop_tests
      (fun q s' => ∃ h' tk i zs m', s' = { s₁ with heap := h', toks := tk } ∧ i ≤ items.size ∧ q = items.size + 1 - i ∧ (h'.IsListIter I ax i ∧ h'.IsList ax items) ∧ Keeps s₁.heap h' ∧ h'.Ns (I + 2) m' ∧ h'.get? (I + 1) = some (LCg.lst zs) ∧ zs.length = i ∧ ∀ j z, zs[j]? = some z → Res j z h') ?_ (items.size + 1)
      ⟨h₁, _, 0, [], _, rfl, Nat.zero_le _, rfl, st1, (k1.trans k2).trans k3, hns₁, k3 _ _ d2, rfl, fun j z hz => by simp at hz⟩
    rintro q s' ⟨h', tk, i, zs, m', rfl, hi, rfl, hst', hK, hn', hD, hz, hR⟩
    by_cases hlt' : i < items.size
    · refine W.item i _ _ _ hlt' hst' fun v h₂ tk₂ hPv hst₂ hk₂ => ?_
      have hT2 : TupKeep h' h₂ := .it hst'.1 hk₂
      have hK2 : Keeps s₁.heap h₂ := fun c o e => hk₂ c o (by intro hm; rw [List.mem_singleton.mp hm, fresh_of (by rw [hI]; exact Nat.le_refl _)] at e; cases e) (hK c o e)
      have hn2 : h₂.Ns (I + 2) m' := hn'.at' fun o e => hk₂ _ o (fun hm => n20 I (List.mem_singleton.mp hm)) e
      have hD2 : h₂.get? (I + 1) = some (LCg.lst zs) := hk₂ _ _ (fun hm => n10 I (List.mem_singleton.mp hm)) hD
      refine wpAny_assign_Name (wpAny_storeName_local (lookup_relabel_local hx) hn2 (fun h₃ hn3 hs₃ => wpAny_tests_nil ?_) hpc)
      rw [if_pos rfl]
      have hs₃' : ∀ c o, c ≠ I + 2 → h₂.get? c = some o → h₃.get? c = some o := fun c o hc e => hs₃.extBut c o hc e
      have hT3 : TupKeep h₂ h₃ := .ns hn2 hs₃'
      have hK3 : Keeps s₁.heap h₃ := fun c o e => hs₃' c o (by have := Heap.lt_size e; rw [hI] at this; exact lt2 this) (hK2 c o e)
      have hD3 : h₃.get? (I + 1) = some (LCg.lst zs) := hs₃' _ _ (n12 I) hD2
      have hst₃ : h₃.IsListIter I ax (i + 1) ∧ h₃.IsList ax items := W.frame _ _ _ hst₂ fun c hc o e => hs₃' c o (by
        rcases List.mem_cons.mp hc with rfl | hc
        · exact n02 _
        · rw [List.mem_singleton.mp hc]; exact lt2 hlt) e
      refine wpAny_mono (turn i v (I + 2) h₃ _ _ _ hPv hK3 hn3 (by simp)) (fun y s₄ h₄ => ?_) fun _ _ e => e
      obtain ⟨h₅, tk₅, rfl, hK5, hR5⟩ := h₄
      refine append_at (hK5 _ _ hD3) (fun h₆ hs₆ hD₆ => ?_) (by rw [List.size_toArray, hz, sizeLine_eq]; omega)
      have hT6 : TupKeep h₅ h₆ := .lst (hK5 _ _ hD3) fun b o hb e => hs₆.extBut b o hb e
      refine ⟨items.size + 1 - (i + 1), by omega, h₆, tk₅, i + 1, zs ++ [y], _, rfl, hlt', rfl, ?_, ?_, (Heap.Ns.keeps (m := _) hn3 hK5).sameBut hs₆ (n21 I), hD₆.trans (congrArg some (LCg.lst_snoc zs _)), by simp [hz], ?_⟩
      · exact W.frame _ _ _ (W.frame _ _ _ hst₃ fun c _ o e => hK5 c o e) fun c hc o e => hs₆.extBut c o (by
          rcases List.mem_cons.mp hc with rfl | hc
          · exact n01 _
          · rw [List.mem_singleton.mp hc]; exact lt1 hlt) e
      · exact fun c o e => hs₆.extBut c o (by have := Heap.lt_size e; rw [hI] at this; exact lt1 this) (hK5 c o (hK3 c o e))
      · intro j z hj
        by_cases hjz : j < zs.length
        · rw [List.getElem?_append_left hjz] at hj
          exact mono _ _ _ _ (((hT2.trans hT3).trans (.of hK5)).trans hT6) (hR j z hj)
        · have hj' := (List.getElem?_eq_some_iff.mp hj).1
          rw [List.length_append] at hj'
          simp only [List.length_singleton] at hj'
          have ej : j = zs.length := by omega
          subst ej
          rw [List.getElem?_append_right (Nat.le_refl _)] at hj
          simp at hj
          subst hj
          rw [hz]
          exact mono _ _ _ _ hT6 hR5
    · obtain rfl : i = items.size := Nat.le_antisymm hi (Nat.not_lt.mp hlt')
      refine W.done _ _ _ hst' fun h₂ tk₂ hk₂ => ?_
      have hT2 : TupKeep h' h₂ := .it hst'.1 hk₂
      have hK2 : Keeps s₁.heap h₂ := fun c o e => hk₂ c o (by intro hm; rw [List.mem_singleton.mp hm, fresh_of (by rw [hI]; exact Nat.le_refl _)] at e; cases e) (hK c o e)
      have hn2 : h₂.Ns (I + 2) m' := hn'.at' fun o e => hk₂ _ o (fun hm => n20 I (List.mem_singleton.mp hm)) e
      have hD2 : h₂.get? (I + 1) = some (LCg.lst zs) := hk₂ _ _ (fun hm => n10 I (List.mem_singleton.mp hm)) hD
      have hnL : h₂.Ns env.locals m := F.ns.keeps hK2
      show wpAny _ A (assign (.Name y py) env (.ref (I + 1))) _ _ _
      refine wpAny_assign_Name (wpAny_storeName_local hy hnL (fun h₃ hn₃ hs₃ => ?_) hp)
      have hn3 : h₃.Ns (I + 2) m' := hn2.sameBut hs₃ (Ne.symm (lt2 hLlt))
      refine ⟨m', hn3, fun h₄ hs₄ => ?_⟩
      have hT4 : TupKeep h₂ h₄ := (TupKeep.ns hnL fun b o hb e => hs₃.extBut b o hb e).trans (.ns hn3 fun b o hb e => hs₄.extBut b o hb e)
      have hD4 : h₄.get? (I + 1) = some (LCg.lst zs) := hs₄.extBut _ _ (n12 I) (hs₃.extBut _ _ (Ne.symm (lt1 hLlt)) hD2)
      have hE : ∀ b o, b ≠ env.locals → s₁.heap.get? b = some o → h₄.get? b = some o := fun b o hb e => hs₄.extBut b o (by have := Heap.lt_size e; rw [hI] at this; exact lt2 this) (hs₃.extBut b o hb (hK2 b o e))
      refine fin (I + 1) h₄ _ zs hz (fun j z hj => mono _ _ _ _ (hT2.trans hT4) (hR j z hj)) ((TupKeep.of hK2).trans hT4) ⟨hn₃.sameBut hs₄ (lt2 hLlt), fun b o e => hE b o (Nat.ne_of_lt (Nat.lt_of_lt_of_le (Heap.lt_size e) F.above)) (F.keep b o e), F.above⟩ ?_
      intro p hp'
      rcases List.mem_cons.mp hp' with rfl | hp'
      · refine ⟨hD4, Ne.symm (lt1 hLlt), ?_⟩
        cases e : h₀.get? (I + 1) with
        | none => rfl
        | some o' => exact absurd (Heap.lt_size (F.keep _ _ e)) (by rw [hI]; exact Nat.not_lt.mpr (le1 I))
      · exact ⟨hE _ _ (N p hp').2.1 (N p hp').1, (N p hp').2.1, (N p hp').2.2⟩
  exact codeAny_compStart_list (loop _ rfl) (W.self 0 _ _ _ st1 (loop _ rfl))
end
end Mine
end

section
open PySem PySem.W PyProof.Rows PySem.Calls
set_option maxRecDepth 100000
namespace Mine
section
variable {prog : Program} {w : World} {A : Around} {E : Value → Shared → Prop} {s : Shared} {env : Env}
theorem tup3_here {la : Addr} {v0 v1 v2 : Value} {value slice : PySem.Expr} {c : Int} {u : Tok} {Q : Value → Shared → Prop} (hT : IsTup s.heap la #[v0, v1, v2]) (h0 : 0 ≤ c) (h3 : c < 3)
    (h : Q (col3 v0 v1 v2 c) s) (hs : subscripted slice false (.ref la) (.int c u) = operate [.ref la, .int c u] (getItem (.ref la) (.int c u))) : wpAny (model prog w) A (subscriptTail value slice (.ref la) (.int c u)) Q E s := by
  have hc : c = 0 ∨ c = 1 ∨ c = 2 := by omega
  refine item_tupleT (l := [v0, v1, v2]) (j := c.toNat) (x := col3 v0 v1 v2 c) hT (by omega) (by omega) ?_ ?_ h hs
  · rcases hc with rfl | rfl | rfl <;> rfl
  · rcases hc with rfl | rfl | rfl <;> rfl
theorem col3_int {l0 l1 l2 : Int} {t0 t1 t2 : Tok} {c : Int} : col3 (Value.int l0 t0) (Value.int l1 t1) (Value.int l2 t2) c = Value.int (col3 l0 l1 l2 c) (col3 t0 t1 t2 c) := by
  unfold col3; split
  · rfl
  · split <;> rfl
theorem mul_way {a b : Int} {t u : Tok} {Q : Value → Shared → Prop} (hw : a = 1 ∨ a = -1) (h : Q (.int (a * b) s.toks) { s with toks := s.toks + 1 }) : wpAny (model prog w) A (binaryOp .Mult (.int a t) (.int b u)) Q E s :=
  mul_int h (IntMulOk.of_left (by rcases hw with rfl | rfl <;> decide +kernel))
/-- the marks of one own: way times weight, key by key -/
def markOf (l : Int → Int) (ks : List (Int × Int)) : List Int := ks.map fun k => k.2 * l k.1
def MarkAt (base : Heap) (l : Int → Int) (ks : List (Int × Int)) (y : Value) (h : Heap) : Prop := ∃ a ys, y = .ref a ∧ base.get? a = none ∧ IsTup h a (ys : List Value).toArray ∧ IntsAre ys (markOf l ks)
theorem MarkAt.mono {base h h' : Heap} {l : Int → Int} {ks : List (Int × Int)} {y : Value} (k : TupKeep h h') (x : MarkAt base l ks y h) : MarkAt base l ks y h' := by
  obtain ⟨a, ys, e, f, ⟨o, ho, hc, n, hd⟩, hy⟩ := x
  exact ⟨a, ys, e, f, ⟨o, k _ _ _ _ ho hc hd, hc, n, hd⟩, hy⟩
theorem mark_elt {base : Heap} {scope scI : Scope} {cl clI : List (Str × Addr)} {C c ck b ka g d : Addr} {mg mb : Str → Option Value} {krefs : List Addr} {ks : List (Int × Int)} {x0 x1 x2 : Int} {u0 u1 u2 : Tok}
    {p1 p2 p3 p4 p5 p6 p7 p8 p9 q1 q2 q3 q4 q5 : Pos}
    (hh : A.handled = none) (hbase : Keeps base s.heap) (hg : s.heap.Ns env.globals mg) (hm : mg "tuple" = none) (hb : s.heap.Ns env.builtins mb) (hbt : mb "tuple" = some (.type "tuple"))
    (hk : (compEnvC scope cl C env).scope.kind = .function) (hkt : (compEnvC scope cl C env).kindOf "tuple" = some .globalImplicit) (hkk : (compEnvC scope cl C env).kindOf "keys" = some .cell) (hck : cl.lookup (Str.ofString "keys") = some ck)
    (hco : clI.lookup (Str.ofString "own") = some c) (hclI : closureFor scI (compEnvC scope cl C env) = pure clI) (hcellI : ∀ y ∈ scI.names, y.2 ≠ .cell) (hkI : scI.kind = .function)
    (hnI : ∀ y ∈ scI.names, y.2 = .local → scI.names.lookup y.1 = some .local) (hx : scI.names.lookup (Str.ofString "column") = some .local) (hx₂ : scI.names.lookup (Str.ofString "way") = some .local)
    (hko : ∀ C', (compEnvC scI clI C' (compEnvC scope cl C env)).kindOf (Str.ofString "own") = some .cell)
    (hcv : s.heap.IsCell c (some (.ref b))) (hcK : s.heap.IsCell ck (some (.ref ka))) (hKT : IsTup s.heap ka (krefs.map Value.ref).toArray) (hKP : All2 (PairAt s.heap) krefs ks) (hok : KeysOk ks)
    (hB : IsTup s.heap b #[.ref g, .ref d]) (hD : IsTup s.heap d #[.int x0 u0, .int x1 u1, .int x2 u2]) :
    wpAny (model prog w) A (eval (.Call (.Name (Str.ofString "tuple") p1)
        [.ListComp (.BinOp (.Name (Str.ofString "way") p2) .Mult (.Subscript (.Subscript (.Name (Str.ofString "own") p3) (.Constant (.int 1) 0 p4) p5) (.Name (Str.ofString "column") p6) p7) p8)
          [⟨.Tuple [.Name (Str.ofString "column") p9, .Name (Str.ofString "way") q1] 0 q2, .Name (Str.ofString "keys") q3, [], 0⟩] scI q4] [] q5) (compEnvC scope cl C env))
      (fun y s₄ => ∃ h' tk', s₄ = { s with heap := h', toks := tk' } ∧ Keeps s.heap h' ∧ MarkAt base (col3 x0 x1 x2) ks y h') E s := by
  refine Call_Name1 (Name_function_global hk hkt (loadGlobal_builtin hg hm hb hbt ?_))
  refine PyProof.Rows.callWith_type rfl (evalArgs_plain (spliced_cons ?_))
  refine comp_pairs (f := fun k => k.2 * col3 x0 x1 x2 k.1) hh hclI hcellI hkI hnI hx hx₂ (by decide) (ldCellK hck hcK ⟨rfl, rfl⟩ hk hkk) hKT hKP hok.1 ?_ ?_
  · intro i k C' h tk m' t1 t2 E' hki hK hn hc1 hc2
    have hkk' := hok.2 k (List.mem_of_getElem? hki)
    refine wpAny_BinOp (ldVarK hn hc2 (Subscript_ (Subscript_ (ldCellK hco (hcv.keeps hK) (wpAny_Constant_int ?_) hkI (hko _)))) hkI (lookup_relabel_local hx₂))
    refine item_tupleT (l := [.ref g, .ref d]) (j := 1) (hB.keeps hK) (by decide) (by decide) rfl rfl ?_
    refine ldVarK hn hc1 ?_ hkI (lookup_relabel_local hx)
    refine tup3_here (hD.keeps hK) hkk'.1 hkk'.2.1 ?_ (by with_unfolding_all rfl)
    rw [col3_int]
    refine mul_way hkk'.2.2 ?_
    exact ⟨⟨_, rfl⟩, h, _, rfl, Keeps.refl _⟩
  · intro D h tk ys hK hf hDh hy
    refine spliced_nil ?_
    refine call_tuple_list (items := ys.toArray) ⟨_, hDh, rfl, _, rfl⟩ (fun h' hk' => ?_) (by rw [List.size_toArray, hy.length, List.length_map, sizeLine_eq]; have := hok.1; omega)
    refine ⟨_, _, rfl, fun b' o' e => Heap.get?_push_of_some _ (hk' _ _ (hK _ _ e)), _, ys, rfl, ?_, ⟨_, Heap.get?_push_size _ rfl, rfl, _, rfl⟩, hy⟩
    cases e : base.get? h'.objs.size with
    | none => rfl
    | some o' => exact absurd (Heap.lt_size (hk' _ _ (hK _ _ (hbase _ _ e)))) (Nat.lt_irrefl _)
end
end Mine
end

section
open PySem PySem.W PyProof.Rows PySem.Calls
set_option maxRecDepth 100000
namespace Mine
section
variable {prog : Program} {w : World} {A : Around} {E : Value → Shared → Prop} {s : Shared} {env : Env}
/-- Gt of two lists of ints, first difference first -/
def tupGt : List Int → List Int → Bool
  | x :: xs, y :: ys => if x = y then tupGt xs ys else decide (x > y)
  | [], [] => false
  | [], _ :: _ => false
  | _ :: _, [] => true
theorem tupGt_tree {x y : List Int} {xs ys : List Value} {a b : Addr} {P : Fin → Shared → Prop} (hx : IsTup s.heap a xs.toArray) (hy : IsTup s.heap b ys.toArray) (ix : IntsAre xs x) (iy : IntsAre ys y) (h : P (.done (.ret (.bool (tupGt x y)))) s) :
    wpAny (model prog w) A (Builtin.«tuple.__gt__» ⟨[.ref a, .ref b], []⟩) P E s := by
  have hTb := hy.typeIs
  obtain ⟨oa, hoa, _, na, hda⟩ := hx
  obtain ⟨ob, hob, _, nb, hdb⟩ := hy
  show wpAny _ _ (isInstance (.ref b) (.type "tuple") >>= _) _ _ s
  refine wpAny_bind (wpAny_isInstance hTb isSubtype_tuple_tuple ?_)
  simp only [Bool.not_true, Bool.false_eq_true, if_false]
  refine wpAny_bind (wpAny_tupleItemsOf hoa hda ?_)
  refine wpAny_bind (wpAny_tupleItemsOf hob hdb ?_)
  refine wpAny_bind ?_
  refine wpAny_forIn_list _
    (fun rest r s' => r.1 = none ∧ s' = s ∧ ∃ x' y' xs' ys', rest = List.zip xs' ys' ∧ IntsAre xs' x' ∧ IntsAre ys' y' ∧ tupGt x' y' = tupGt x y ∧ decide (xs'.length > ys'.length) = decide (xs.length > ys.length))
    _ ?_ ?_ _ _ ⟨rfl, rfl, x, y, xs, ys, rfl, ix, iy, rfl, rfl⟩
  · rintro ⟨u, v⟩ rest r s' ⟨hr, rfl, x', y', xs', ys', hz, hx', hy', hdec, hlen⟩
    cases hx' with
    | nil => simp at hz
    | @cons k1 t1 xs'' x'' hx'' =>
      cases hy' with
      | nil => simp at hz
      | @cons k2 t2 ys'' y'' hy'' =>
        simp only [List.zip_cons_cons, List.cons.injEq, Prod.mk.injEq] at hz
        obtain ⟨⟨rfl, rfl⟩, rfl⟩ := hz
        refine wpAny_bind (wpAny_eqBool_int ?_)
        by_cases hk : k1 = k2
        · subst hk
          rw [beq_self_eq_true]
          simp only [Bool.not_true, Bool.false_eq_true, if_false]
          refine wpAny_pure ⟨rfl, rfl, x'', y'', xs'', ys'', rfl, hx'', hy'', ?_, by simpa using hlen⟩
          rw [← hdec]
          simp [tupGt]
        · rw [beq_false_of_ne hk]
          simp only [Bool.not_false, if_true]
          have hf : decide (k1 > k2) = tupGt x y := by rw [← hdec]; simp [tupGt, hk]
          rw [← hf] at h
          refine wpAny_bind (wpAny_rule (wpAny_bind ?_))
          exact richCompare_gives (op := .Gt) (typeIs_int _ k1 _) (typeIs_int _ k2 _) F.slot_int_gt F.entry_int_gt (F.args_int_gt_2 _ _) (gives_int_gt k1 k2 _ _) (fun x => nomatch x) (wpAny_bind (wpAny_pure (wpAny_pure (wpAny_pure h))))
  · rintro ⟨r1, r2⟩ s' ⟨hr, rfl, x', y', xs', ys', hz, hx', hy', hdec, hlen⟩
    simp only at hr
    subst hr
    refine wpAny_pure ?_
    have hfin : decide (xs.toArray.size > ys.toArray.size) = tupGt x y := by
      rw [List.size_toArray, List.size_toArray, ← hdec, ← hlen]
      cases hx' with
      | nil =>
        cases hy' with
        | nil => simp [tupGt]
        | cons _ _ => simp [tupGt]
      | cons _ _ =>
        cases hy' with
        | nil => simp [tupGt]
        | cons _ _ => simp at hz
    show P (.done (.ret (.bool (decide (xs.toArray.size > ys.toArray.size))))) s'
    rw [hfin]; exact h
theorem cmpGt {x y : List Int} {xs ys : List Value} {a b : Addr} {Q : Value → Shared → Prop} (hu : A.units < cLine) (hx : IsTup s.heap a xs.toArray) (hy : IsTup s.heap b ys.toArray) (ix : IntsAre xs x) (iy : IntsAre ys y) (h : Q (.bool (tupGt x y)) s) :
    wpAny (model prog w) A (compareOp .Gt (.ref a) (.ref b)) Q E s :=
  wpAny_richCompare_same_room (op := .Gt) hx.typeIs hy.typeIs F.slot_tuple_gt
      (wpAny_call_entry F.slot_tuple_gt hx.typeIs F.entry_tuple_gt (tupGt_tree hx hy ix iy ⟨_, rfl, (fun e => nomatch e), h⟩) (F.args_tuple_gt_2 _ _)) hu
/-- Lt of two lists of ints, first difference first -/
def tupLt : List Int → List Int → Bool
  | x :: xs, y :: ys => if x = y then tupLt xs ys else decide (x < y)
  | [], [] => false
  | [], _ :: _ => true
  | _ :: _, [] => false
theorem tupLt_tree {x y : List Int} {xs ys : List Value} {a b : Addr} {P : Fin → Shared → Prop} (hx : IsTup s.heap a xs.toArray) (hy : IsTup s.heap b ys.toArray) (ix : IntsAre xs x) (iy : IntsAre ys y) (h : P (.done (.ret (.bool (tupLt x y)))) s) :
    wpAny (model prog w) A (Builtin.«tuple.__lt__» ⟨[.ref a, .ref b], []⟩) P E s := by
  have hTb := hy.typeIs
  obtain ⟨oa, hoa, _, na, hda⟩ := hx
  obtain ⟨ob, hob, _, nb, hdb⟩ := hy
  show wpAny _ _ (isInstance (.ref b) (.type "tuple") >>= _) _ _ s
  refine wpAny_bind (wpAny_isInstance hTb isSubtype_tuple_tuple ?_)
  simp only [Bool.not_true, Bool.false_eq_true, if_false]
  refine wpAny_bind (wpAny_tupleItemsOf hoa hda ?_)
  refine wpAny_bind (wpAny_tupleItemsOf hob hdb ?_)
  refine wpAny_bind ?_
  refine wpAny_forIn_list _
    (fun rest r s' => r.1 = none ∧ s' = s ∧ ∃ x' y' xs' ys', rest = List.zip xs' ys' ∧ IntsAre xs' x' ∧ IntsAre ys' y' ∧ tupLt x' y' = tupLt x y ∧ decide (xs'.length < ys'.length) = decide (xs.length < ys.length))
    _ ?_ ?_ _ _ ⟨rfl, rfl, x, y, xs, ys, rfl, ix, iy, rfl, rfl⟩
  · rintro ⟨u, v⟩ rest r s' ⟨hr, rfl, x', y', xs', ys', hz, hx', hy', hdec, hlen⟩
    cases hx' with
    | nil => simp at hz
    | @cons k1 t1 xs'' x'' hx'' =>
      cases hy' with
      | nil => simp at hz
      | @cons k2 t2 ys'' y'' hy'' =>
        simp only [List.zip_cons_cons, List.cons.injEq, Prod.mk.injEq] at hz
        obtain ⟨⟨rfl, rfl⟩, rfl⟩ := hz
        refine wpAny_bind (wpAny_eqBool_int ?_)
        by_cases hk : k1 = k2
        · subst hk
          rw [beq_self_eq_true]
          simp only [Bool.not_true, Bool.false_eq_true, if_false]
          refine wpAny_pure ⟨rfl, rfl, x'', y'', xs'', ys'', rfl, hx'', hy'', ?_, by simpa using hlen⟩
          rw [← hdec]
          simp [tupLt]
        · rw [beq_false_of_ne hk]
          simp only [Bool.not_false, if_true]
          have hf : decide (k1 < k2) = tupLt x y := by rw [← hdec]; simp [tupLt, hk]
          rw [← hf] at h
          refine wpAny_bind (wpAny_rule (wpAny_bind ?_))
          exact richCompare_gives (op := .Lt) (typeIs_int _ k1 _) (typeIs_int _ k2 _) F.slot_int_lt F.entry_int_lt (F.args_int_lt_2 _ _) (gives_int_lt k1 k2 _ _) (fun x => nomatch x) (wpAny_bind (wpAny_pure (wpAny_pure (wpAny_pure h))))
  · rintro ⟨r1, r2⟩ s' ⟨hr, rfl, x', y', xs', ys', hz, hx', hy', hdec, hlen⟩
    simp only at hr
    subst hr
    refine wpAny_pure ?_
    have hfin : decide (xs.toArray.size < ys.toArray.size) = tupLt x y := by
      rw [List.size_toArray, List.size_toArray, ← hdec, ← hlen]
      cases hx' with
      | nil =>
        cases hy' with
        | nil => simp [tupLt]
        | cons _ _ => simp [tupLt]
      | cons _ _ =>
        cases hy' with
        | nil => simp [tupLt]
        | cons _ _ => simp at hz
    show P (.done (.ret (.bool (decide (xs.toArray.size < ys.toArray.size))))) s'
    rw [hfin]; exact h
theorem cmpLt {x y : List Int} {xs ys : List Value} {a b : Addr} {Q : Value → Shared → Prop} (hu : A.units < cLine) (hx : IsTup s.heap a xs.toArray) (hy : IsTup s.heap b ys.toArray) (ix : IntsAre xs x) (iy : IntsAre ys y) (h : Q (.bool (tupLt x y)) s) :
    wpAny (model prog w) A (compareOp .Lt (.ref a) (.ref b)) Q E s :=
  wpAny_richCompare_same_room (op := .Lt) hx.typeIs hy.typeIs F.slot_tuple_lt
      (wpAny_call_entry F.slot_tuple_lt hx.typeIs F.entry_tuple_lt (tupLt_tree hx hy ix iy ⟨_, rfl, (fun e => nomatch e), h⟩) (F.args_tuple_lt_2 _ _)) hu
end
end Mine
end

section
open PySem PySem.W PyProof.Rows PySem.Calls
set_option maxRecDepth 100000
namespace Mine
abbrev wts (n : Int) : Int → Int := col3 (w1 (n.fmod 16)) (w2 (n.fdiv 16)) (w3 (n.fdiv 7))
/-- the marks' tuples stand among the new objects -/
structure MarksIn (tn : List (Addr × Obj)) (zs : List Value) (ns : List Int) (ks : List (Int × Int)) : Prop where
  few : zs.length ≤ 12
  at' : ∀ (j : Nat) n, j < zs.length → ns[j]? = some n → ∃ a o ys, zs[j]? = some (.ref a) ∧ (a, o) ∈ tn ∧ o.cls = .type "tuple" ∧ (∃ k, o.data = .seq (ys : List Value).toArray k) ∧ IntsAre ys (markOf (wts n) ks)
theorem marks_news {h₀ h₁ h : Heap} {L : Addr} {m : Str → Option Value} {zs : List Value} {ns : List Int} {ks : List (Int × Int)} (F : h₁.Ns L m) (hk : Keeps h₀ h₁) (hz : zs.length ≤ 12)
    (hR : ∀ (j : Nat) z, zs[j]? = some z → ∃ n, ns[j]? = some n ∧ MarkAt h₁ (wts n) ks z h) : ∃ tn, News h₀ L h tn ∧ MarksIn tn zs ns ks := by
  refine ⟨zs.filterMap fun z => match z with | .ref a => (h.get? a).map fun o => (a, o) | _ => none, ?_, hz, ?_⟩
  · intro p hp
    obtain ⟨z, hz, hz'⟩ := List.mem_filterMap.mp hp
    obtain ⟨j, hj⟩ := List.getElem?_of_mem hz
    obtain ⟨n, _, a, ys, rfl, hf, ⟨o, ho, _⟩, _⟩ := hR j z hj
    simp only [ho, Option.map_some] at hz'
    cases hz'
    refine ⟨ho, ?_, ?_⟩
    · rintro rfl
      obtain ⟨oL, _, _, hL, _⟩ := F
      rw [hf] at hL; cases hL
    · show h₀.get? a = none
      cases e : h₀.get? a with
      | none => rfl
      | some o' => rw [hk _ _ e] at hf; cases hf
  · intro j n hj hn
    obtain ⟨n', hn', a, ys, e, hf, ⟨o, ho, hc, hd⟩, hi⟩ := hR j _ (List.getElem?_eq_getElem hj)
    rw [hn] at hn'; cases hn'
    have hz : zs[j]? = some (.ref a) := by rw [List.getElem?_eq_getElem hj, e]
    exact ⟨a, o, ys, hz, List.mem_filterMap.mpr ⟨_, List.mem_of_getElem? hz, by simp [ho]⟩, hc, hd, hi⟩
theorem MarksIn.get {tn : List (Addr × Obj)} {zs : List Value} {ns : List Int} {ks : List (Int × Int)} (M : MarksIn tn zs ns ks) {k : Int} {n : Int} (h0 : 0 ≤ k) (h1 : k < 0 + (zs.length : Int)) (hn : ns[k.toNat]? = some n) :
    ∃ a o ys, zs[k.toNat]? = some (.ref a) ∧ (a, o) ∈ tn ∧ o.cls = .type "tuple" ∧ (∃ k, o.data = .seq (ys : List Value).toArray k) ∧ IntsAre ys (markOf (wts n) ks) := M.at' _ _ (by omega) hn
end Mine
end

section
open PySem PySem.W PyProof.Rows PySem.Calls
set_option maxRecDepth 100000
namespace Mine
inductive MarkPt (tn : List (Addr × Obj)) (a : Addr) (l : List Int) : Prop where
  | intro (o : Obj) (ys : List Value) (k : Nat) (hm : (a, o) ∈ tn) (hc : o.cls = .type "tuple") (hd : o.data = .seq ys.toArray k) (hi : IntsAre ys l)
theorem MarksIn.pt {tn : List (Addr × Obj)} {zs : List Value} {ns : List Int} {ks : List (Int × Int)} {refs : List Addr} (M : MarksIn tn zs ns ks) (hl : zs.length = refs.length) {k : Int} {n : Int} (h0 : 0 ≤ k) (h1 : k < 0 + (refs.length : Int)) (hn : ns[k.toNat]? = some n) :
    ∃ a, zs[k.toNat]? = some (.ref a) ∧ MarkPt tn a (markOf (wts n) ks) := by
  obtain ⟨a, o, ys, h1, h2, h3, ⟨k, h4⟩, h5⟩ := M.get h0 (by rw [hl]; exact h1) hn
  exact ⟨a, h1, .intro o ys k h2 h3 h4 h5⟩
section
variable {prog : Program} {w : World} {A : Around} {E : Value → Shared → Prop} {s : Shared} {h₀ : Heap} {L : Addr} {news tn : List (Addr × Obj)}
theorem list_itemN {D a : Addr} {zs : List Value} {value slice : PySem.Expr} {k : Int} {u : Tok} {Q : Value → Shared → Prop} (N : News h₀ L s.heap news) (hm : (D, LCg.lst zs) ∈ news) (h0 : 0 ≤ k) (hl : zs.length ≤ 12) (hx : zs[k.toNat]? = some (.ref a)) (h : Q (.ref a) s)
    (hs : subscripted slice false (.ref D) (.int k u) = operate [.ref D, .int k u] (getItem (.ref D) (.int k u))) : wpAny (model prog w) A (subscriptTail value slice (.ref D) (.int k u)) Q E s := by
  have hls : s.heap.IsList D zs.toArray := ⟨_, N.get hm, rfl, _, rfl⟩
  have hi := (List.getElem?_eq_some_iff.mp hx).1
  refine tail_any hls.typeIs slot_list_getitem.lookup (wpAny_getItem_list hls h0 (by omega) (by simpa using hx) h) hs
theorem MarkPt.tup {a : Addr} {l : List Int} (M : MarkPt tn a l) (N : News h₀ L s.heap news) (hsub : ∀ p ∈ tn, p ∈ news) : ∃ ys : List Value, IsTup s.heap a ys.toArray ∧ IntsAre ys l := by
  obtain ⟨o, ys, k, hm, hc, hd, hi⟩ := M
  exact ⟨ys, ⟨o, N.get (hsub _ hm), hc, k, hd⟩, hi⟩
theorem tgtN {a b : Addr} {x y : List Int} {Q : Value → Shared → Prop} (hu : A.units < cLine) (N : News h₀ L s.heap news) (ha : MarkPt tn a x) (hb : MarkPt tn b y) (hsub : ∀ p ∈ tn, p ∈ news) (h : Q (.bool (tupGt x y)) s) :
    wpAny (model prog w) A (compareOp .Gt (.ref a) (.ref b)) Q E s := by
  obtain ⟨xs, hx, ix⟩ := ha.tup N hsub
  obtain ⟨ys, hy, iy⟩ := hb.tup N hsub
  exact cmpGt hu hx hy ix iy h
theorem tltN {a b : Addr} {x y : List Int} {Q : Value → Shared → Prop} (hu : A.units < cLine) (N : News h₀ L s.heap news) (ha : MarkPt tn a x) (hb : MarkPt tn b y) (hsub : ∀ p ∈ tn, p ∈ news) (h : Q (.bool (tupLt x y)) s) :
    wpAny (model prog w) A (compareOp .Lt (.ref a) (.ref b)) Q E s := by
  obtain ⟨xs, hx, ix⟩ := ha.tup N hsub
  obtain ⟨ys, hy, iy⟩ := hb.tup N hsub
  exact cmpLt hu hx hy ix iy h
end
theorem judge_of {h₀ h : Heap} {L jx dx ka : Addr} {m : Str → Option Value} {news : List (Addr × Obj)} {ks : List (Int × Int)} {refs : List Addr} {hsh : Int} {tk : Tok} {n : Nat} (N : News h₀ L h news) (F : Fr h₀ L h m)
    (h1 : (jx, instObj 105 dx) ∈ news) (h2 : (dx, dictOf [⟨hsh, .str (Str.ofString "comp_select_list") tk, .ref ka⟩] n) ∈ news) (h3 : IsTup h₀ ka (refs.map Value.ref).toArray) (h4 : All2 (PairAt h₀) refs ks) : JudgeAt h jx ks dx ka refs hsh tk n :=
  ⟨N.get h1, N.get h2, h3.keeps F.keep, h4.imp fun _ _ x => let ⟨u, u', y⟩ := x; ⟨u, u', y.keeps F.keep⟩⟩
end Mine
end

section
open PySem PySem.W PyProof.Rows PySem.Calls
set_option maxRecDepth 100000
namespace Mine
def ordI (a b : Int) : Ordering := if a < b then .lt else if b < a then .gt else .eq
theorem col0_all : ∀ i < 16, ∀ j < 16, Builtin.Bytes.order (u8s (g1 (Int.ofNat i))) (u8s (g1 (Int.ofNat j))) = ordI (w1 (Int.ofNat i)) (w1 (Int.ofNat j)) := by decide +kernel
theorem col0 {a b : Int} (ha : 0 ≤ a) (ha' : a < 16) (hb : 0 ≤ b) (hb' : b < 16) : Builtin.Bytes.order (u8s (g1 a)) (u8s (g1 b)) = ordI (w1 a) (w1 b) := by
  have := col0_all a.toNat (by omega) b.toNat (by omega)
  rwa [show Int.ofNat a.toNat = a from Int.toNat_of_nonneg ha, show Int.ofNat b.toNat = b from Int.toNat_of_nonneg hb] at this
/-- ranks rise with the codes -/
theorem rk2_up : ∀ a ∈ codes2, ∀ b ∈ codes2, ((Nat.toUInt8 a < Nat.toUInt8 b) = (rk2 a < rk2 b)) ∧ ((Nat.toUInt8 a > Nat.toUInt8 b) = (rk2 b < rk2 a)) := by
  have : ∀ a ∈ codes2, ∀ b ∈ codes2, (decide (Nat.toUInt8 a < Nat.toUInt8 b) = decide (rk2 a < rk2 b)) ∧ (decide (Nat.toUInt8 a > Nat.toUInt8 b) = decide (rk2 b < rk2 a)) := by decide +kernel
  intro a ha b hb
  obtain ⟨h1, h2⟩ := this a ha b hb
  exact ⟨propext (by simpa using h1), propext (by simpa using h2)⟩
theorem rk3_up : ∀ a ∈ codes3, ∀ b ∈ codes3, ((Nat.toUInt8 a < Nat.toUInt8 b) = (rk3 a < rk3 b)) ∧ ((Nat.toUInt8 a > Nat.toUInt8 b) = (rk3 b < rk3 a)) := by
  have : ∀ a ∈ codes3, ∀ b ∈ codes3, (decide (Nat.toUInt8 a < Nat.toUInt8 b) = decide (rk3 a < rk3 b)) ∧ (decide (Nat.toUInt8 a > Nat.toUInt8 b) = decide (rk3 b < rk3 a)) := by decide +kernel
  intro a ha b hb
  obtain ⟨h1, h2⟩ := this a ha b hb
  exact ⟨propext (by simpa using h1), propext (by simpa using h2)⟩
theorem ordI_lt {a b : Int} (h : a < b) : ordI a b = .lt := if_pos h
theorem ordI_gt {a b : Int} (h : b < a) : ordI a b = .gt := by rw [ordI, if_neg (Int.lt_asymm h), if_pos h]
theorem ordI_rfl (a : Int) : ordI a a = .eq := by rw [ordI, if_neg (Int.lt_irrefl a), if_neg (Int.lt_irrefl a)]
def thenO : Ordering → Ordering → Ordering
  | .eq, o => o
  | o, _ => o
theorem ite_ord (p q : Int) (R : Ordering) : (if p < q then Ordering.lt else if q < p then Ordering.gt else R) = thenO (ordI p q) R := by
  unfold ordI
  by_cases h : p < q
  · rw [if_pos h, if_pos h]; rfl
  · rw [if_neg h, if_neg h]
    by_cases h' : q < p
    · rw [if_pos h', if_pos h']; rfl
    · rw [if_neg h', if_neg h']; rfl
theorem stepI {x y a b : Int} (ha : a < 65) (hb : 0 ≤ b) (h : x < y) : x * 66 + a + 1 < y * 66 + b + 1 := by omega
theorem lexI {x y a b : Int} (ha : 0 ≤ a ∧ a < 65) (hb : 0 ≤ b ∧ b < 65) : ordI (x * 66 + a + 1) (y * 66 + b + 1) = thenO (ordI x y) (ordI a b) := by
  by_cases h : x < y
  · rw [ordI_lt h, ordI_lt (stepI ha.2 hb.1 h)]; rfl
  · by_cases h' : y < x
    · rw [ordI_gt h', ordI_gt (stepI hb.2 ha.1 h')]; rfl
    · have e : x = y := Int.le_antisymm (Int.not_lt.mp h') (Int.not_lt.mp h)
      subst e
      rw [ordI_rfl]
      have c : ∀ a b : Int, (x * 66 + a + 1 < x * 66 + b + 1) = (a < b) := fun a b => propext ⟨fun h => by omega, fun h => by omega⟩
      simp only [ordI, c, thenO]
theorem ords (A B C D : Ordering) : thenO A (thenO B (thenO C (thenO D .eq))) = thenO (thenO (thenO A B) C) D := by
  cases A <;> try rfl
  cases B <;> try rfl
  cases C <;> try rfl
  cases D <;> rfl
/-- four signs each: the order of the codes is the order of the weights -/
theorem ord4 {rk : Nat → Int} {codes : List Nat} (up : ∀ a ∈ codes, ∀ b ∈ codes, ((Nat.toUInt8 a < Nat.toUInt8 b) = (rk a < rk b)) ∧ ((Nat.toUInt8 a > Nat.toUInt8 b) = (rk b < rk a))) (lo : ∀ a ∈ codes, 0 ≤ rk a ∧ rk a < 65)
    {l l' : List Nat} (hl : l.length = 0 ∨ l.length = 4) (hl' : l'.length = 0 ∨ l'.length = 4) (hm : ∀ a ∈ l, a ∈ codes) (hm' : ∀ a ∈ l', a ∈ codes) :
    Builtin.Bytes.order (u8s l) (u8s l') = ordI (wSt rk l l.length) (wSt rk l' l'.length) := by
  match l, hl, hm with
  | [], _, _ =>
    match l', hl', hm' with
    | [], _, _ => simp [u8s, Builtin.Bytes.order, ordI, wSt]
    | [a', b', c', d'], _, hm' =>
      have h1 := lo a' (hm' _ (by simp)); have h2 := lo b' (hm' _ (by simp)); have h3 := lo c' (hm' _ (by simp)); have h4 := lo d' (hm' _ (by simp))
      simp only [u8s, List.map_cons, List.map_nil, Builtin.Bytes.order, ordI, wSt, List.length_cons, List.length_nil, List.getD_cons_zero, List.getD_cons_succ]
      rw [if_pos (by omega)]
  | [a, b, c, d], _, hm =>
    have h1 := lo a (hm _ (by simp)); have h2 := lo b (hm _ (by simp)); have h3 := lo c (hm _ (by simp)); have h4 := lo d (hm _ (by simp))
    match l', hl', hm' with
    | [], _, _ =>
      simp only [u8s, List.map_cons, List.map_nil, Builtin.Bytes.order, ordI, wSt, List.length_cons, List.length_nil, List.getD_cons_zero, List.getD_cons_succ]
      rw [if_neg (by omega), if_pos (by omega)]
    | [a', b', c', d'], _, hm' =>
      have h1' := lo a' (hm' _ (by simp)); have h2' := lo b' (hm' _ (by simp)); have h3' := lo c' (hm' _ (by simp)); have h4' := lo d' (hm' _ (by simp))
      have ua := up a (hm _ (by simp)) a' (hm' _ (by simp)); have ub := up b (hm _ (by simp)) b' (hm' _ (by simp)); have uc := up c (hm _ (by simp)) c' (hm' _ (by simp)); have ud := up d (hm _ (by simp)) d' (hm' _ (by simp))
      simp only [u8s, List.map_cons, List.map_nil, Builtin.Bytes.order, ua.1, ua.2, ub.1, ub.2, uc.1, uc.2, ud.1, ud.2, wSt, List.length_cons, List.length_nil, List.getD_cons_zero, List.getD_cons_succ, ite_ord]
      rw [lexI h4 h4', lexI h3 h3', lexI h2 h2', lexI h1 h1', ordI_rfl]
      exact ords _ _ _ _
theorem sig6_04 (alph : Str) (o : List Int) : (sig6 alph o).length = 0 ∨ (sig6 alph o).length = 4 := by
  match o with
  | [] | [_] | [_, _] | [_, _, _] | _ :: _ :: _ :: _ :: _ => simp [sig6]
theorem col1 (a b : Int) : Builtin.Bytes.order (u8s (g2 a)) (u8s (g2 b)) = ordI (w2 a) (w2 b) :=
  ord4 rk2_up (fun c hc => ⟨Int.natCast_nonneg _, by have := rk2_lt c hc; simp only [rk2]; omega⟩) (sig6_04 _ _) (sig6_04 _ _) (g2_mem a) (g2_mem b)
theorem col2 (a b : Int) : Builtin.Bytes.order (u8s (g3 a)) (u8s (g3 b)) = ordI (w3 a) (w3 b) :=
  ord4 rk3_up (fun c hc => ⟨Int.natCast_nonneg _, by have := rk3_lt c hc; simp only [rk3]; omega⟩) (sig6_04 _ _) (sig6_04 _ _) (g3_mem a) (g3_mem b)
theorem colOrd (n n' c : Int) : Builtin.Bytes.order (rowC n c).toList (rowC n' c).toList = ordI (wts n c) (wts n' c) := by
  rw [rowC_eq, rowC_eq]
  have m0 : 0 ≤ n.fmod 16 := Int.fmod_nonneg_of_pos _ (by decide)
  have m1 : n.fmod 16 < 16 := Int.fmod_lt_of_pos _ (by decide)
  have m0' : 0 ≤ n'.fmod 16 := Int.fmod_nonneg_of_pos _ (by decide)
  have m1' : n'.fmod 16 < 16 := Int.fmod_lt_of_pos _ (by decide)
  show Builtin.Bytes.order (u8s (ownC n c)) (u8s (ownC n' c)) = _
  unfold ownC wts col3
  split
  · exact col0 m0 m1 m0' m1'
  · split
    · exact col1 _ _
    · exact col2 _ _
theorem plain {l l' : Int → Int} {r r' : Int → Array UInt8} (hc : ∀ c, Builtin.Bytes.order (r c).toList (r' c).toList = ordI (l c) (l' c)) : ∀ (ks : List (Int × Int)), (∀ k ∈ ks, k.2 = 1 ∨ k.2 = -1) →
    cmpK r r' ks = (if tupGt (markOf l ks) (markOf l' ks) = true then 1 else 0) - (if tupLt (markOf l ks) (markOf l' ks) = true then 1 else 0)
  | [], _ => by simp [cmpK, markOf, tupGt, tupLt]
  | k :: ks, h => by
    have hk := h k (by simp)
    have ih := plain hc ks fun q hq => h q (List.mem_cons_of_mem _ hq)
    simp only [cmpK, hc, markOf, List.map_cons, tupGt, tupLt]
    unfold markOf at ih
    by_cases e1 : l k.1 < l' k.1
    · have e : ordI (l k.1) (l' k.1) = .lt := by simp [ordI, e1]
      rw [e]
      have ne : k.2 * l k.1 ≠ k.2 * l' k.1 := by rcases hk with hk | hk <;> rw [hk] <;> omega
      rw [if_neg ne, if_neg ne]
      rcases hk with hk | hk
      · have g1 : decide (k.2 * l k.1 > k.2 * l' k.1) = false := decide_eq_false (by rw [hk]; omega)
        have g2 : decide (k.2 * l k.1 < k.2 * l' k.1) = true := decide_eq_true (by rw [hk]; omega)
        rw [g1, g2, hk]; rfl
      · have g1 : decide (k.2 * l k.1 > k.2 * l' k.1) = true := decide_eq_true (by rw [hk]; omega)
        have g2 : decide (k.2 * l k.1 < k.2 * l' k.1) = false := decide_eq_false (by rw [hk]; omega)
        rw [g1, g2, hk]; rfl
    · by_cases e2 : l' k.1 < l k.1
      · have e : ordI (l k.1) (l' k.1) = .gt := by simp [ordI, e1, e2]
        rw [e]
        have ne : k.2 * l k.1 ≠ k.2 * l' k.1 := by rcases hk with hk | hk <;> rw [hk] <;> omega
        rw [if_neg ne, if_neg ne]
        rcases hk with hk | hk
        · have g1 : decide (k.2 * l k.1 > k.2 * l' k.1) = true := decide_eq_true (by rw [hk]; omega)
          have g2 : decide (k.2 * l k.1 < k.2 * l' k.1) = false := decide_eq_false (by rw [hk]; omega)
          rw [g1, g2, hk]; rfl
        · have g1 : decide (k.2 * l k.1 > k.2 * l' k.1) = false := decide_eq_false (by rw [hk]; omega)
          have g2 : decide (k.2 * l k.1 < k.2 * l' k.1) = true := decide_eq_true (by rw [hk]; omega)
          rw [g1, g2, hk]; rfl
      · have e3 : l k.1 = l' k.1 := by omega
        have e : ordI (l k.1) (l' k.1) = .eq := by simp [ordI, e1, e2]
        rw [e, e3, if_pos rfl, if_pos rfl]
        exact ih
theorem ordered (n n' : Int) {ks : List (Int × Int)} (hok : KeysOk ks) :
    cmpK (rowC n) (rowC n') ks = (if tupGt (markOf (wts n) ks) (markOf (wts n') ks) = true then 1 else 0) - (if tupLt (markOf (wts n) ks) (markOf (wts n') ks) = true then 1 else 0) :=
  plain (colOrd n n') ks fun k hk => (hok.2 k hk).2.2
end Mine
end

section
open PySem PySem.W PyProof.Rows PySem.Calls
set_option maxRecDepth 100000
set_option maxHeartbeats 8000000
set_option linter.unusedSimpArgs false
namespace Mine
/-- the head leaves its own lines switched on: off again -/
theorem offP9 : True := by w_top off; trivial
theorem News_two {h₀ h : Heap} {L : Addr} {p q : Addr × Obj} {tn : List (Addr × Obj)} (x : News h₀ L h [p, q]) (y : News h₀ L h tn) : News h₀ L h (p :: q :: tn) := fun r hr => by
  rcases List.mem_cons.mp hr with rfl | hr
  · exact x _ (.head _)
  · rcases List.mem_cons.mp hr with rfl | hr
    · exact x _ (.tail _ (.head _))
    · exact y _ hr
theorem sp_ordered (w : World) (rl ol ka : Addr) (refs orefs krefs : List Addr) (ns : List Int) (ks : List (Int × Int)) (hok : KeysOk ks) : Spec w 2 166 [.ref rl, .ref ol, .ref ka] [] (fun h => DataAt h rl ol refs orefs ns ∧ IsTup h ka (krefs.map Value.ref).toArray ∧ All2 (PairAt h) krefs ks) (fun _ _ r => r = .bool true) := by
  have mk9 : MarkN [Str.ofString "j", Str.ofString "told", Str.ofString "want"] := .intro
  intro mean mg mb dp un gd base outer s Q E B X T hd hu hp ret
  obtain ⟨hp, hkt, hkp⟩ := hp
  have hD1 := hp.rows
  have hD3 := hp.few
  have hD4 : orefs.length ≤ 12 := by rw [hp.own.length, ← hp.row.length]; exact hp.few
  skip
  k_dflt (refine' enterC (binds := [(Str.ofString "rows", .ref rl), (Str.ofString "owns", .ref ol), (Str.ofString "keys", .ref ka)]) X T ?ho ?hcd ?hroom ?hbind ?hloc ?hnd ?_ ?c2 ?c3 ?c4)
  case ho => k_is
  case hcd => k_is
  case hroom => exact Nat.lt_of_le_of_lt (Nat.le_add_right _ _) hd
  case hbind => exact BindsTo.of_eq rfl
  case hloc => exact rfl
  case hnd => decide +kernel
  case c2 => rfl
  case c3 => rfl
  case c4 => rfl
  intro L h₁ tk cells F N Y
  k_cells Y
  (try simp only [List.cons_append, List.nil_append] at N)
  (try dsimp only)
  (try k_fold)

  w_strict (repeat' (first
      | (k_unfold; (try dsimp only))
      | (k_end; wrow_close)
      | with_reducible (k_here; (with_reducible show wpAny _ _ (call (Value.ref 102) _) _ _ _); k_dflt (refine' useA (sp_cmp _ _ _ _ _ _ _ _ _ _ _ _ _ _ _ _ _ _ _ _ _ _ _ (by with_reducible assumption)) ?_ (hp := by (refine' ⟨judge_of (by k_asm) (by k_asm) ?j1x20 ?j2x20 ?j3x20 ?j4x20, IsTup.keeps ?j5x20 (Fr.keep (by k_asm)), IsTup.keeps ?j6x20 (Fr.keep (by k_asm))⟩; (case j1x20 | j2x20 => (repeat (first | with_reducible assumption | with_reducible exact List.mem_cons_self | refine List.mem_cons_of_mem _ ?_ | refine List.mem_append_right _ ?_))); (case j3x20 | j4x20 | j5x20 | j6x20 => with_reducible assumption))); intro r' h' tk' F' N' K' P'; obtain ⟨t', hr'⟩ := P'; subst hr'; (try k_sweep); (try dsimp only); (try k_fold)))
      | with_reducible ((with_reducible show wpAny _ _ (compareOp CmpOp.Lt (Value.ref _) (Value.ref _)) _ _ _); k_here; k_dflt (refine' tltN ?k0x19 ?k1x19 ?k2x19 ?k3x19 ?k4x19 ?_; (case k0x19 => ((try dsimp only [At, Around.deeper]); omega)); (case k1x19 => k_asm); (case k2x19 | k3x19 => with_reducible assumption); (case k4x19 => (intro p9 hp9; (repeat (first | with_reducible assumption | with_reducible exact List.mem_cons_self | refine List.mem_cons_of_mem _ ?_ | refine List.mem_append_right _ ?_))))))
      | with_reducible ((with_reducible show wpAny _ _ (compareOp CmpOp.Gt (Value.ref _) (Value.ref _)) _ _ _); k_here; k_dflt (refine' tgtN ?k0x18 ?k1x18 ?k2x18 ?k3x18 ?k4x18 ?_; (case k0x18 => ((try dsimp only [At, Around.deeper]); omega)); (case k1x18 => k_asm); (case k2x18 | k3x18 => with_reducible assumption); (case k4x18 => (intro p9 hp9; (repeat (first | with_reducible assumption | with_reducible exact List.mem_cons_self | refine List.mem_cons_of_mem _ ?_ | refine List.mem_append_right _ ?_))))))
      | with_reducible (k_here; (with_reducible show wpAny _ _ (subscriptTail _ _ (Value.ref _) (Value.int _ _)) _ _ _); k_dflt (refine' list_itemN ?k1x17 ?k2x17 ?k3x17 ?k6x17 ?k4x17 ?_ ?k5x17; (case k1x17 => k_asm); (case k2x17 => (repeat (first | with_reducible assumption | with_reducible exact List.mem_cons_self | refine List.mem_cons_of_mem _ ?_ | refine List.mem_append_right _ ?_))); (case k3x17 => first | with_reducible assumption | omega); (case k6x17 | k4x17 => with_reducible assumption); (case k5x17 => with_unfolding_all rfl); k_whole))
      | with_reducible ((with_reducible show wpAny _ _ (pyIter (Value.ref _)) _ _ _); k_here; k_dflt (refine' iter_rangeLawM ?mk2x16 ?hh2x16 ?hr2x16 ?hs2x16 ?hn2x16 ?F2x16 ?N2x16 ?kt2x16 ?kd2x16; (case mk2x16 => with_reducible assumption); (case hh2x16 => rfl); (case hr2x16 => assumption); (case hs2x16 => exact rsN_small (by with_reducible assumption)); (case hn2x16 => exact rsN_size (by with_reducible assumption)); (case F2x16 | N2x16 => k_asm)); (all_goals (first | (k_dflt (intro k' t' u' h' tk' own' lo' hi' F' N'; obtain ⟨a9, b9, n9, ha9, hb9, hn9, ⟨x1, x2, x3, hr9⟩, hx9⟩ := DataAt.at (by with_reducible assumption) lo' hi'; obtain ⟨ma9, hz9, hp9⟩ := MarksIn.pt (by with_reducible assumption) (by with_reducible assumption) lo' hi' hn9)) | intro u' h' tk' F' N')); (all_goals (try dsimp only)); (all_goals (try k_fold)))
      | with_reducible ((with_reducible show wpAny _ _ (pyIter (Value.ref _)) _ _ _); k_here; k_dflt (refine' iter_rangeLawM ?mkx15 ?hhx15 ?hrx15 ?hsx15 ?hnx15 ?Fx15 ?Nx15 ?ktx15 ?kdx15; (case mkx15 => with_reducible assumption); (case hhx15 => rfl); (case hrx15 => assumption); (case hsx15 => exact rsN_small (by with_reducible assumption)); (case hnx15 => exact rsN_size (by with_reducible assumption)); (case Fx15 | Nx15 => k_asm)); (all_goals (first | (k_dflt (intro k' t' u' h' tk' own' lo' hi' F' N'; obtain ⟨a9, b9, n9, ha9, hb9, hn9, ⟨x1, x2, x3, hr9⟩, hx9⟩ := DataAt.at (by with_reducible assumption) lo' hi'; obtain ⟨ma9, hz9, hp9⟩ := MarksIn.pt (by with_reducible assumption) (by with_reducible assumption) lo' hi' hn9)) | intro u' h' tk' F' N')); (all_goals (try dsimp only)); (all_goals (try k_fold)))
      | with_reducible (k_here; (with_reducible show wpAny _ _ (call (Value.ref _) [Value.ref _]) _ _ _); k_dflt (refine' call_cls ?k1x14 ?k2x14 ?k3x14 ?k4x14 ?k5x14 ?k6x14 ?_; (case k1x14 | k2x14 | k3x14 => k_asm); (case k4x14 | k5x14 | k6x14 => k_is); k_whole; intro x' d' h' F' N' l1 l2; (try k_lt l1); (try k_lt2 l2); (try k_sweep); (refine' code_def ?k1x14 ?k2x14 ?k3x14 ?k4x14 ?k5x14 ?kAx14 ?kFx14 ?kKx14 ?k6x14 ?k7x14 ?k8x14 ?k9x14 ?kBx14 ?_ ?c2x14 ?c3x14 ?c4x14 ?c5x14; (case kAx14 | kFx14 | kKx14 => exact rfl); (case k1x14 | k2x14 | k3x14 | k4x14 | k5x14 => k_asm); (case k6x14 | k7x14 => k_is); (case k8x14 => ((try simp only [depth_under_make, depth_under_kw, depth_in1, depth_deeper]); (try dsimp only [At]); omega)); (case k9x14 => exact BindsTo.of_eq rfl); (case c5x14 => decide); (case kBx14 => exact locs rfl); (case c2x14 | c3x14 | c4x14 => exact rfl); k_whole; intro g' L' h' FG' F' N' B' X' T'; (try dsimp only); (try k_fold))))
      | with_reducible (k_here; (with_reducible show wpAny _ _ (call (Value.builtin "len") [Value.ref _]) _ _ _); k_dflt (refine' len_list0 ?k1x13 ?k2x13 ?k3x13 ?_; (case k1x13 => with_reducible assumption); (case k2x13 => k_asm); (case k3x13 => first | with_reducible assumption | omega)); intro t' k')
      | with_reducible (k_here; (with_reducible show wpAny _ _ (subscriptTail _ _ (Value.ref _) (Value.int _ _)) _ _ _); first | (k_dflt (refine' list_item ?k1x12 ?k2x12 ?k3x12 ?k6x12 ?k4x12 ?_ ?k5x12; (case k1x12 => with_reducible assumption); (case k2x12 => k_asm); (case k3x12 => first | with_reducible assumption | omega); (case k6x12 | k4x12 => with_reducible assumption); (case k5x12 => with_unfolding_all rfl); k_whole)) | (k_dflt (refine' row_item ?k1x12 ?k2x12 ?k3x12 ?k4x12 ?_ ?k5x12; (case k1x12 => with_reducible assumption); (case k2x12 => k_asm); (case k3x12 | k4x12 => first | with_reducible assumption | omega); (case k5x12 => with_unfolding_all rfl); k_whole); intro t') | (k_dflt (refine' strs_item ?k1x12 ?k2x12 ?k3x12 ?k4x12 ?_ ?k5x12; (case k1x12 => with_reducible assumption); (case k2x12 => k_asm); (case k3x12 | k4x12 => first | with_reducible assumption | omega); (case k5x12 => with_unfolding_all rfl); k_whole); intro t') | (k_dflt (refine' ints_item ?k1x12 ?k2x12 ?k3x12 ?k4x12 ?_ ?k5x12; (case k1x12 => with_reducible assumption); (case k2x12 => k_asm); (case k3x12 | k4x12 => first | with_reducible assumption | omega); (case k5x12 => with_unfolding_all rfl); k_whole); intro t') | (k_dflt (refine' two_item0 ?k1x12 ?k2x12 ?_ ?k5x12; (case k1x12 => with_reducible assumption); (case k2x12 => k_asm); (case k5x12 => with_unfolding_all rfl); k_whole)) | (k_dflt (refine' two_item1 ?k1x12 ?k2x12 ?_ ?k5x12; (case k1x12 => with_reducible assumption); (case k2x12 => k_asm); (case k5x12 => with_unfolding_all rfl); k_whole)))
      | with_reducible (k_here; (with_reducible refine meth_encode ?_))
      | with_reducible (k_here; (with_reducible show wpAny _ _ (call (Value.builtin "str.encode") [Value.str _ _, Value.str _ _]) _ _ _); (refine call_encode (by (first | assumption | exact hexOf_low _)) (by (first | assumption | omega | (simp only [List.size_toArray, hexOf_length, Array.length_toList]; omega))) ?_); intro t' k')
      | with_reducible (k_here; (with_reducible show wpAny _ _ (call (Value.builtin "bytes.translate") [Value.bytes _ _, Value.bytes _ _]) _ _ _); (refine call_translate (by decide) (by (first | assumption | omega | (simp only [byteArr_size]; omega))) ?_); intro t' k')
      | with_reducible (k_here; (with_reducible show wpAny _ _ (call (Value.builtin "bytes.upper") [Value.bytes _ _]) _ _ _); (refine call_upper (by (first | assumption | omega | (simp only [Array.size_map, List.size_toArray, hexOf_length, Array.length_toList]; omega))) ?_); intro t' k')
      | with_reducible (k_here; (with_reducible show wpAny _ _ (call (Value.builtin "bytes.hex") [Value.bytes _ _]) _ _ _); (refine call_hex (by (first | assumption | omega)) ?_); intro t' k')
      | with_reducible (k_here; first | (with_reducible refine meth_hex ?_) | (with_reducible refine meth_upper ?_) | (with_reducible refine meth_translate ?_))
      | with_reducible (k_here; (with_reducible show wpAny _ _ (call (Value.type "bytes") [Value.ref _]) _ _ _); k_dflt (refine' bytes_push ?kbaFx5 ?kbaNx5 ?kbahx5 ?kbalx5 ?kbaix5 ?kbarx5 ?kbanx5 ?_; (case kbaFx5 | kbaNx5 => k_asm); (case kbahx5 => rfl); (case kbalx5 => k_mem); (case kbaix5 => ((repeat apply ia_push); exact ia_nil)); (case kbarx5 => ((repeat (refine' in_push ?_ ?kax5 ?kbx5; (case kax5 | kbx5 => first | with_reducible assumption | decide))); exact in_nil)); (case kbanx5 => exact Nat.le_of_ble_eq_true rfl)); intro h' t' k' F' N')
      | with_reducible ((with_reducible show wpAny _ _ (storeName _ _ _) _ _ _); k_here; k_dflt (first | (refine' storeI ?Fx4 ?Nx4 ?_ ?ax4 ?bx4; (case Fx4 | Nx4 => k_asm); (case ax4 | bx4 => rfl); k_whole; intro h' t' tk' F' N'; (try k_sweep); (try dsimp only)) | (refine' storeS ?Fx4 ?Nx4 ?_ ?ax4 ?bx4; (case Fx4 | Nx4 => k_asm); (case ax4 | bx4 => rfl); k_whole; intro h' t' tk' F' N'; (try k_sweep); (try dsimp only)) | (refine' storeB ?Fx4 ?Nx4 ?_ ?ax4 ?bx4; (case Fx4 | Nx4 => k_asm); (case ax4 | bx4 => rfl); k_whole; intro h' t' tk' F' N'; (try k_sweep); (try dsimp only))))
      | with_reducible ((with_reducible show wpAny _ _ (binaryOp Operator.LShift (Value.int _ _) (Value.int _ _)) _ _ _); k_here; (with_reducible refine' lshift_int_small ?kb1x3 ?kb2x3 ?kb3x3 ?_); (case kb1x3 | kb2x3 => decide); (case kb3x3 => ((try simp only [bitAnd_m16, bitAnd_m2, bitAnd_m4]); omega)))
      | with_reducible ((with_reducible show wpAny _ _ (pyIter (Value.bytes _ _)) _ _ _); (with_reducible show wpAny _ _ (pyIter (Value.bytes _ _)) (fun it s₂ => LoopAtV _ _ _ _ _ _ _ _ _ it s₂) _ _); k_here; k_bytesUnr)
      | with_reducible (k_here; (with_reducible show wpAny _ _ (call (Value.type "type") [Value.bytes _ _]) _ _ _); refine call_type_of (typeIs_bytes _ _ _) (by decide) ?_)
      | with_reducible (k_here; (with_reducible refine floordiv_int (p256_ne ?kbex0) ?_ (Or.inl (PyProof.noPylong_small (p256_small ?kbpx0)))); (case kbex0 | kbpx0 => omega))
      | walk1
      | (dsimp only)
      | (leave1; walk_say "STEP leave1"; try dsimp only)
      | fail "no step"))
  have hcK : h₁.IsCell (L + 1) (some (.ref ka)) := ⟨_, (N _ (.head _)).1, by assumption⟩
  k_dflt (refine' assign_comp_cell (cl := [(Str.ofString "keys", L + 1)]) (ax := ol) (items := (orefs.map Value.ref).toArray) (Res := fun j y h => ∃ n, ns[j]? = some n ∧ MarkAt h₁ (col3 (w1 (n.fmod 16)) (w2 (n.fdiv 16)) (w3 (n.fdiv 7))) ks y h) ?hh ?hsw ?hclos ?hc ?hpc ?hkind ?hnames ?hx ?hy ?hp ?hv ?hL ?hfew ?F ?N ?mono ?turn ?fin)
  case hh => rfl
  case hsw => rfl
  case hclos => rfl
  case hc => intro _ _; rfl
  case hpc => intro _; rfl
  case hkind => rfl
  case hnames => decide
  case hx => rfl
  case hy => rfl
  case hp => rfl
  case hv => exact wpAny_Name (wpAny_loadName_local rfl rfl F.ns rfl ⟨rfl, rfl⟩) (by decide)
  case hL => exact F.lst hp.owns
  case hfew => simpa using hD4
  case F => exact F
  case N => exact N
  case mono => exact fun j v h h' k x => let ⟨n, hn, y⟩ := x; ⟨n, hn, y.mono k⟩
  case turn =>
    intro i v C c h tk' m₂ E' hv hK hn hc
    have hv' : (orefs.map Value.ref)[i]? = some v := by simpa using hv
    rw [List.getElem?_map] at hv'
    obtain ⟨b, hb, rfl⟩ := Option.map_eq_some_iff.mp hv'
    obtain ⟨n, hn', b1, c1, t1, t2, t3, u1, u2, u3, hT1, _, hT3⟩ := hp.own.get hb
    have hB : Keeps s.heap h := fun b o e => hK _ _ (F.keep _ _ e)
    refine wpAny_mono (mark_elt (base := h₁) (clI := [(Str.ofString "own", c)]) (ck := L + 1) rfl hK (T.g.keeps hB) (T.free _ (by decide +kernel) (by decide +kernel) (by decide +kernel) (by decide +kernel) (by decide +kernel)) (T.b.keeps hB) ((T.builtins _ (by decide +kernel)).trans (by rfl)) rfl rfl rfl rfl rfl rfl (by decide) rfl (by decide) rfl rfl (fun _ => rfl) hc (hcK.keeps hK) (hkt.keeps hB) (hkp.imp fun a k x => let ⟨u, u', y⟩ := x; ⟨u, u', y.keeps hB⟩) hok (hT1.keeps hB) (hT3.keeps hB)) (fun y s₄ x => ?_) fun _ _ e => e
    obtain ⟨h', tk'', e, k, m⟩ := x
    exact ⟨h', tk'', e, k, n, hn', m⟩
  case fin => 
    intro D h tk' zs hz hR hT F' N'
    have hz' : zs.length = refs.length := by rw [hz, List.size_toArray, List.length_map, hp.own.length, ← hp.row.length]
    have hD5 : zs.length ≤ 12 := by rw [hz']; exact hp.few
    obtain ⟨tn, Nt, Mt⟩ := marks_news F.ns F.keep (by rw [hz']; exact hp.few) hR
    have N2 : News s.heap L h _ := News_two N' Nt
    clear N N' hR Nt hT hcK
    dsimp only
    try k_fold
    w_strict (repeat' (first
      | (k_unfold; (try dsimp only))
      | (k_end; wrow_close)
      | with_reducible (k_here; (with_reducible show wpAny _ _ (call (Value.ref 102) _) _ _ _); k_dflt (refine' useA (sp_cmp _ _ _ _ _ _ _ _ _ _ _ _ _ _ _ _ _ _ _ _ _ _ _ (by with_reducible assumption)) ?_ (hp := by (refine' ⟨judge_of (by k_asm) (by k_asm) ?j1x20 ?j2x20 ?j3x20 ?j4x20, IsTup.keeps ?j5x20 (Fr.keep (by k_asm)), IsTup.keeps ?j6x20 (Fr.keep (by k_asm))⟩; (case j1x20 | j2x20 => (repeat (first | with_reducible assumption | with_reducible exact List.mem_cons_self | refine List.mem_cons_of_mem _ ?_ | refine List.mem_append_right _ ?_))); (case j3x20 | j4x20 | j5x20 | j6x20 => with_reducible assumption))); intro r' h' tk' F' N' K' P'; obtain ⟨t', hr'⟩ := P'; subst hr'; (try k_sweep); (try dsimp only); (try k_fold)))
      | with_reducible ((with_reducible show wpAny _ _ (compareOp CmpOp.Lt (Value.ref _) (Value.ref _)) _ _ _); k_here; k_dflt (refine' tltN ?k0x19 ?k1x19 ?k2x19 ?k3x19 ?k4x19 ?_; (case k0x19 => ((try dsimp only [At, Around.deeper]); omega)); (case k1x19 => k_asm); (case k2x19 | k3x19 => with_reducible assumption); (case k4x19 => (intro p9 hp9; (repeat (first | with_reducible assumption | with_reducible exact List.mem_cons_self | refine List.mem_cons_of_mem _ ?_ | refine List.mem_append_right _ ?_))))))
      | with_reducible ((with_reducible show wpAny _ _ (compareOp CmpOp.Gt (Value.ref _) (Value.ref _)) _ _ _); k_here; k_dflt (refine' tgtN ?k0x18 ?k1x18 ?k2x18 ?k3x18 ?k4x18 ?_; (case k0x18 => ((try dsimp only [At, Around.deeper]); omega)); (case k1x18 => k_asm); (case k2x18 | k3x18 => with_reducible assumption); (case k4x18 => (intro p9 hp9; (repeat (first | with_reducible assumption | with_reducible exact List.mem_cons_self | refine List.mem_cons_of_mem _ ?_ | refine List.mem_append_right _ ?_))))))
      | with_reducible (k_here; (with_reducible show wpAny _ _ (subscriptTail _ _ (Value.ref _) (Value.int _ _)) _ _ _); k_dflt (refine' list_itemN ?k1x17 ?k2x17 ?k3x17 ?k6x17 ?k4x17 ?_ ?k5x17; (case k1x17 => k_asm); (case k2x17 => (repeat (first | with_reducible assumption | with_reducible exact List.mem_cons_self | refine List.mem_cons_of_mem _ ?_ | refine List.mem_append_right _ ?_))); (case k3x17 => first | with_reducible assumption | omega); (case k6x17 | k4x17 => with_reducible assumption); (case k5x17 => with_unfolding_all rfl); k_whole))
      | with_reducible ((with_reducible show wpAny _ _ (pyIter (Value.ref _)) _ _ _); k_here; k_dflt (refine' iter_rangeLawM ?mk2x16 ?hh2x16 ?hr2x16 ?hs2x16 ?hn2x16 ?F2x16 ?N2x16 ?kt2x16 ?kd2x16; (case mk2x16 => with_reducible assumption); (case hh2x16 => rfl); (case hr2x16 => assumption); (case hs2x16 => exact rsN_small (by with_reducible assumption)); (case hn2x16 => exact rsN_size (by with_reducible assumption)); (case F2x16 | N2x16 => k_asm)); (all_goals (first | (k_dflt (intro k' t' u' h' tk' own' lo' hi' F' N'; obtain ⟨a9, b9, n9, ha9, hb9, hn9, ⟨x1, x2, x3, hr9⟩, hx9⟩ := DataAt.at (by with_reducible assumption) lo' hi'; obtain ⟨ma9, hz9, hp9⟩ := MarksIn.pt (by with_reducible assumption) (by with_reducible assumption) lo' hi' hn9)) | intro u' h' tk' F' N')); (all_goals (try dsimp only)); (all_goals (try k_fold)))
      | with_reducible ((with_reducible show wpAny _ _ (pyIter (Value.ref _)) _ _ _); k_here; k_dflt (refine' iter_rangeLawM ?mkx15 ?hhx15 ?hrx15 ?hsx15 ?hnx15 ?Fx15 ?Nx15 ?ktx15 ?kdx15; (case mkx15 => with_reducible assumption); (case hhx15 => rfl); (case hrx15 => assumption); (case hsx15 => exact rsN_small (by with_reducible assumption)); (case hnx15 => exact rsN_size (by with_reducible assumption)); (case Fx15 | Nx15 => k_asm)); (all_goals (first | (k_dflt (intro k' t' u' h' tk' own' lo' hi' F' N'; obtain ⟨a9, b9, n9, ha9, hb9, hn9, ⟨x1, x2, x3, hr9⟩, hx9⟩ := DataAt.at (by with_reducible assumption) lo' hi'; obtain ⟨ma9, hz9, hp9⟩ := MarksIn.pt (by with_reducible assumption) (by with_reducible assumption) lo' hi' hn9)) | intro u' h' tk' F' N')); (all_goals (try dsimp only)); (all_goals (try k_fold)))
      | with_reducible (k_here; (with_reducible show wpAny _ _ (call (Value.ref _) [Value.ref _]) _ _ _); k_dflt (refine' call_cls ?k1x14 ?k2x14 ?k3x14 ?k4x14 ?k5x14 ?k6x14 ?_; (case k1x14 | k2x14 | k3x14 => k_asm); (case k4x14 | k5x14 | k6x14 => k_is); k_whole; intro x' d' h' F' N' l1 l2; (try k_lt l1); (try k_lt2 l2); (try k_sweep); (refine' code_def ?k1x14 ?k2x14 ?k3x14 ?k4x14 ?k5x14 ?kAx14 ?kFx14 ?kKx14 ?k6x14 ?k7x14 ?k8x14 ?k9x14 ?kBx14 ?_ ?c2x14 ?c3x14 ?c4x14 ?c5x14; (case kAx14 | kFx14 | kKx14 => exact rfl); (case k1x14 | k2x14 | k3x14 | k4x14 | k5x14 => k_asm); (case k6x14 | k7x14 => k_is); (case k8x14 => ((try simp only [depth_under_make, depth_under_kw, depth_in1, depth_deeper]); (try dsimp only [At]); omega)); (case k9x14 => exact BindsTo.of_eq rfl); (case c5x14 => decide); (case kBx14 => exact locs rfl); (case c2x14 | c3x14 | c4x14 => exact rfl); k_whole; intro g' L' h' FG' F' N' B' X' T'; (try dsimp only); (try k_fold))))
      | with_reducible (k_here; (with_reducible show wpAny _ _ (call (Value.builtin "len") [Value.ref _]) _ _ _); k_dflt (refine' len_list0 ?k1x13 ?k2x13 ?k3x13 ?_; (case k1x13 => with_reducible assumption); (case k2x13 => k_asm); (case k3x13 => first | with_reducible assumption | omega)); intro t' k')
      | with_reducible (k_here; (with_reducible show wpAny _ _ (subscriptTail _ _ (Value.ref _) (Value.int _ _)) _ _ _); first | (k_dflt (refine' list_item ?k1x12 ?k2x12 ?k3x12 ?k6x12 ?k4x12 ?_ ?k5x12; (case k1x12 => with_reducible assumption); (case k2x12 => k_asm); (case k3x12 => first | with_reducible assumption | omega); (case k6x12 | k4x12 => with_reducible assumption); (case k5x12 => with_unfolding_all rfl); k_whole)) | (k_dflt (refine' row_item ?k1x12 ?k2x12 ?k3x12 ?k4x12 ?_ ?k5x12; (case k1x12 => with_reducible assumption); (case k2x12 => k_asm); (case k3x12 | k4x12 => first | with_reducible assumption | omega); (case k5x12 => with_unfolding_all rfl); k_whole); intro t') | (k_dflt (refine' strs_item ?k1x12 ?k2x12 ?k3x12 ?k4x12 ?_ ?k5x12; (case k1x12 => with_reducible assumption); (case k2x12 => k_asm); (case k3x12 | k4x12 => first | with_reducible assumption | omega); (case k5x12 => with_unfolding_all rfl); k_whole); intro t') | (k_dflt (refine' ints_item ?k1x12 ?k2x12 ?k3x12 ?k4x12 ?_ ?k5x12; (case k1x12 => with_reducible assumption); (case k2x12 => k_asm); (case k3x12 | k4x12 => first | with_reducible assumption | omega); (case k5x12 => with_unfolding_all rfl); k_whole); intro t') | (k_dflt (refine' two_item0 ?k1x12 ?k2x12 ?_ ?k5x12; (case k1x12 => with_reducible assumption); (case k2x12 => k_asm); (case k5x12 => with_unfolding_all rfl); k_whole)) | (k_dflt (refine' two_item1 ?k1x12 ?k2x12 ?_ ?k5x12; (case k1x12 => with_reducible assumption); (case k2x12 => k_asm); (case k5x12 => with_unfolding_all rfl); k_whole)))
      | with_reducible (k_here; (with_reducible refine meth_encode ?_))
      | with_reducible (k_here; (with_reducible show wpAny _ _ (call (Value.builtin "str.encode") [Value.str _ _, Value.str _ _]) _ _ _); (refine call_encode (by (first | assumption | exact hexOf_low _)) (by (first | assumption | omega | (simp only [List.size_toArray, hexOf_length, Array.length_toList]; omega))) ?_); intro t' k')
      | with_reducible (k_here; (with_reducible show wpAny _ _ (call (Value.builtin "bytes.translate") [Value.bytes _ _, Value.bytes _ _]) _ _ _); (refine call_translate (by decide) (by (first | assumption | omega | (simp only [byteArr_size]; omega))) ?_); intro t' k')
      | with_reducible (k_here; (with_reducible show wpAny _ _ (call (Value.builtin "bytes.upper") [Value.bytes _ _]) _ _ _); (refine call_upper (by (first | assumption | omega | (simp only [Array.size_map, List.size_toArray, hexOf_length, Array.length_toList]; omega))) ?_); intro t' k')
      | with_reducible (k_here; (with_reducible show wpAny _ _ (call (Value.builtin "bytes.hex") [Value.bytes _ _]) _ _ _); (refine call_hex (by (first | assumption | omega)) ?_); intro t' k')
      | with_reducible (k_here; first | (with_reducible refine meth_hex ?_) | (with_reducible refine meth_upper ?_) | (with_reducible refine meth_translate ?_))
      | with_reducible (k_here; (with_reducible show wpAny _ _ (call (Value.type "bytes") [Value.ref _]) _ _ _); k_dflt (refine' bytes_push ?kbaFx5 ?kbaNx5 ?kbahx5 ?kbalx5 ?kbaix5 ?kbarx5 ?kbanx5 ?_; (case kbaFx5 | kbaNx5 => k_asm); (case kbahx5 => rfl); (case kbalx5 => k_mem); (case kbaix5 => ((repeat apply ia_push); exact ia_nil)); (case kbarx5 => ((repeat (refine' in_push ?_ ?kax5 ?kbx5; (case kax5 | kbx5 => first | with_reducible assumption | decide))); exact in_nil)); (case kbanx5 => exact Nat.le_of_ble_eq_true rfl)); intro h' t' k' F' N')
      | with_reducible ((with_reducible show wpAny _ _ (storeName _ _ _) _ _ _); k_here; k_dflt (first | (refine' storeI ?Fx4 ?Nx4 ?_ ?ax4 ?bx4; (case Fx4 | Nx4 => k_asm); (case ax4 | bx4 => rfl); k_whole; intro h' t' tk' F' N'; (try k_sweep); (try dsimp only)) | (refine' storeS ?Fx4 ?Nx4 ?_ ?ax4 ?bx4; (case Fx4 | Nx4 => k_asm); (case ax4 | bx4 => rfl); k_whole; intro h' t' tk' F' N'; (try k_sweep); (try dsimp only)) | (refine' storeB ?Fx4 ?Nx4 ?_ ?ax4 ?bx4; (case Fx4 | Nx4 => k_asm); (case ax4 | bx4 => rfl); k_whole; intro h' t' tk' F' N'; (try k_sweep); (try dsimp only))))
      | with_reducible ((with_reducible show wpAny _ _ (binaryOp Operator.LShift (Value.int _ _) (Value.int _ _)) _ _ _); k_here; (with_reducible refine' lshift_int_small ?kb1x3 ?kb2x3 ?kb3x3 ?_); (case kb1x3 | kb2x3 => decide); (case kb3x3 => ((try simp only [bitAnd_m16, bitAnd_m2, bitAnd_m4]); omega)))
      | with_reducible ((with_reducible show wpAny _ _ (pyIter (Value.bytes _ _)) _ _ _); (with_reducible show wpAny _ _ (pyIter (Value.bytes _ _)) (fun it s₂ => LoopAtV _ _ _ _ _ _ _ _ _ it s₂) _ _); k_here; k_bytesUnr)
      | with_reducible (k_here; (with_reducible show wpAny _ _ (call (Value.type "type") [Value.bytes _ _]) _ _ _); refine call_type_of (typeIs_bytes _ _ _) (by decide) ?_)
      | with_reducible (k_here; (with_reducible refine floordiv_int (p256_ne ?kbex0) ?_ (Or.inl (PyProof.noPylong_small (p256_small ?kbpx0)))); (case kbex0 | kbpx0 => omega))
      | walk1
      | (dsimp only)
      | (leave1; walk_say "STEP leave1"; try dsimp only)
      | fail "no step"))
    all_goals first | exact ret _ _ _ (Fr.keep (by assumption)) rfl | exact absurd (ordered _ _ hok) (by assumption)
end Mine
end

section
open PySem PySem.W PyProof.Rows PySem.Calls
set_option maxRecDepth 100000
namespace Mine
section
variable {w : World} {s : Shared} {mean : ExcName → Option Value} {mg mb : Str → Option Value} {h₀ : Heap} {L : Addr} {m : Str → Option Value} {news : List (Addr × Obj)}
/-- a contract used in the law's own frame -/
theorem useTop {env : Env} {n : Nat} {f : Addr} {vs : List Value} {kw : List (Str × Value)} {Pre : Heap → Prop} {Post : Heap → Heap → Value → Prop} {Q E : Value → Shared → Prop}
    (C : Spec w n f vs kw Pre Post) (F : Fr h₀ L s.heap m) (X : (Mine.hd.heap_39 w.params).In h₀) (N : News h₀ L s.heap news) (T : Top Mine.hd.view_39 LOOSE mean mg mb h₀) (hf : env.frame = some L) (hk : env.scope.kind = .function)
    (hn : n ≤ 9) (hp : Pre s.heap) (ret : ∀ r h' tk', Fr h₀ L h' m → News h₀ L h' news → Keeps s.heap h' → Post s.heap h' r → Q r { s with heap := h', toks := tk' }) :
    wpAny (model PySem.Challenge.rw_mj0065_01.row.prog w) (callerA.deeper env) (call (.ref f) vs kw) Q E s :=
  use (dp := 302) (un := 7) (gd := some []) C (below_caller h₀) F X N T hf hk (by show 302 + n < 1000; omega) (by show 7 + 8 * n < 9900; omega) hp ret
theorem useTopA {env : Env} {n : Nat} {f : Addr} {vs : List Value} {kw : List (Str × Value)} {Pre : Heap → Prop} {Post : Heap → Heap → Value → Prop} {Q E : Value → Shared → Prop}
    (C : Spec w n f vs kw Pre Post) (ret : ∀ r h' tk', Fr h₀ L h' m → News h₀ L h' news → Keeps s.heap h' → Post s.heap h' r → Q r { s with heap := h', toks := tk' })
    (F : Fr h₀ L s.heap m := by k_asm) (X : (Mine.hd.heap_39 w.params).In h₀ := by k_asm) (N : News h₀ L s.heap news := by k_asm) (T : Top Mine.hd.view_39 LOOSE mean mg mb h₀ := by k_asm) (hf : env.frame = some L := by exact rfl) (hk : env.scope.kind = .function := by exact rfl)
    (hn : n ≤ 9 := by decide) (hp : Pre s.heap := by trivial) :
    wpAny (model PySem.Challenge.rw_mj0065_01.row.prog w) (callerA.deeper env) (call (.ref f) vs kw) Q E s := useTop C F X N T hf hk hn hp ret
/-- f(x), an element of a comprehension in the law's own frame -/
theorem call_elt {env : Env} {fname x : Str} {f C : Addr} {pf px pc : Pos} {scope : Scope} {cl : List (Str × Addr)} {n : Int} {t : Tok} {k : Nat} {Post : Heap → Heap → Value → Prop} {o : Obj} {fd : FuncData} {m₂ : Str → Option Value} {E : Value → Shared → Prop}
    (SP : Spec w k f [.int n t] [] (fun _ => True) Post) (hk9 : k ≤ 9) (F : Fr h₀ L s.heap m) (X : (Mine.hd.heap_39 w.params).In h₀) (N : News h₀ L s.heap news) (T : Top Mine.hd.view_39 LOOSE mean mg mb h₀) (hf : env.frame = some L) (hke : env.scope.kind = .function)
    (hg : (compEnvC scope cl C env).globals = mainGlobals) (hk : (compEnvC scope cl C env).scope.kind = .function) (hx : (compEnvC scope cl C env).kindOf fname = some .globalImplicit) (hd : (fname == ("__debug__" : Str)) = false)
    (e : nsIn (Mine.hd.heap_39 w.params) mainGlobals fname = some (some (.ref f))) (ho : (Mine.hd.heap_39 w.params).lookup f = some o) (hdat : o.data = .func fd)
    (hn : s.heap.Ns C m₂) (hv : m₂ x = some (.int n t)) (hkI : scope.kind = .function) (hxl : scope.names.lookup x = some .local) (hdx : (x == ("__debug__" : Str)) = false) :
    wpAny (model PySem.Challenge.rw_mj0065_01.row.prog w) (callerA.deeper env) (eval (.Call (.Name fname pf) [.Name x px] [] pc) (compEnvC scope cl C env)) (fun y s₄ => ∃ h' tk', s₄ = { s with heap := h', toks := tk' } ∧ Keeps s.heap h' ∧ Post s.heap h' y) E s := by
  refine Call_Name1 (nameG_K F X (topRead_of T) e ?_ hg hk hx hd)
  refine callWith_function (o := o) (fd := fd) (evalArgs_plain (spliced_cons (ldVarK hn hv (spliced_nil ⟨⟨F.keep _ _ (X _ _ ho), hdat⟩, ?_⟩) hkI (lookup_relabel_local hxl) hdx)))
  exact useTop SP F X N T hf hke hk9 trivial fun r h' tk' _ _ k p => ⟨h', tk', rfl, k, p⟩
end
theorem IsTup.tk {h h' : Heap} {a : Addr} {l : Array Value} (k : TupKeep h h') (x : IsTup h a l) : IsTup h' a l := by
  obtain ⟨o, ho, hc, n, hd⟩ := x
  exact ⟨o, k _ _ _ _ ho hc hd, hc, n, hd⟩
theorem RowIs.tk {h h' : Heap} {a : Addr} {n : Int} (k : TupKeep h h') (x : RowIs h a n) : RowIs h' a n := let ⟨t1, t2, t3, y⟩ := x; ⟨t1, t2, t3, IsTup.tk k y⟩
theorem OwnIs.tk {h h' : Heap} {a : Addr} {n : Int} (k : TupKeep h h') (x : OwnIs h a n) : OwnIs h' a n :=
  let ⟨b, c, t1, t2, t3, u1, u2, u3, y1, y2, y3⟩ := x; ⟨b, c, t1, t2, t3, u1, u2, u3, IsTup.tk k y1, IsTup.tk k y2, IsTup.tk k y3⟩
def RowRes (ns : List Int) (j : Nat) (y : Value) (h : Heap) : Prop := ∃ n a, ns[j]? = some n ∧ y = .ref a ∧ RowIs h a n
def OwnRes (ns : List Int) (j : Nat) (y : Value) (h : Heap) : Prop := ∃ n a, ns[j]? = some n ∧ y = .ref a ∧ OwnIs h a n
theorem RowRes.mono {ns : List Int} (j : Nat) (y : Value) (h h' : Heap) (k : TupKeep h h') (x : RowRes ns j y h) : RowRes ns j y h' := let ⟨n, a, e, f, z⟩ := x; ⟨n, a, e, f, z.tk k⟩
theorem OwnRes.mono {ns : List Int} (j : Nat) (y : Value) (h h' : Heap) (k : TupKeep h h') (x : OwnRes ns j y h) : OwnRes ns j y h' := let ⟨n, a, e, f, z⟩ := x; ⟨n, a, e, f, z.tk k⟩
theorem RowRes.of {ns : List Int} {j : Nat} {n : Int} {y : Value} {h h' : Heap} (e : ns[j]? = some n) (x : RowAt h h' n y) : RowRes ns j y h' :=
  let ⟨a, t1, t2, t3, ey, _, g⟩ := x; ⟨n, a, e, ey, t1, t2, t3, _, g, rfl, _, rfl⟩
theorem OwnRes.of {ns : List Int} {j : Nat} {n : Int} {y : Value} {h h' : Heap} (e : ns[j]? = some n) (x : OwnAt h h' n y) : OwnRes ns j y h' := by
  obtain ⟨a, b, c, t1, t2, t3, u1, u2, u3, ey, _, _, _, g1, g2, g3⟩ := x
  exact ⟨n, a, e, ey, b, c, t1, t2, t3, u1, u2, u3, ⟨_, g1, rfl, _, rfl⟩, ⟨_, g2, rfl, _, rfl⟩, ⟨_, g3, rfl, _, rfl⟩⟩
theorem refs_of {R : Addr → Int → Prop} : ∀ {zs : List Value} {ns : List Int}, zs.length = ns.length → (∀ (j : Nat) z, zs[j]? = some z → ∃ n a, ns[j]? = some n ∧ z = .ref a ∧ R a n) → ∃ refs : List Addr, zs = refs.map Value.ref ∧ All2 R refs ns
  | [], [], _, _ => ⟨[], rfl, .nil⟩
  | [], _ :: _, h, _ => by simp at h
  | _ :: _, [], h, _ => by simp at h
  | z :: zs, n :: ns, h, hR => by
    obtain ⟨n', a, e, rfl, r⟩ := hR 0 z rfl
    cases e
    obtain ⟨refs, rfl, A⟩ := refs_of (R := R) (zs := zs) (ns := ns) (by simpa using h) fun j z hz => hR (j + 1) z (by simpa using hz)
    exact ⟨a :: refs, rfl, .cons r A⟩
theorem DataAt.keeps {h h' : Heap} {rl ol : Addr} {refs orefs : List Addr} {ns : List Int} (D : DataAt h rl ol refs orefs ns) (k : Keeps h h') : DataAt h' rl ol refs orefs ns where
  rows := D.rows.at fun _ e => k _ _ e
  owns := D.owns.at fun _ e => k _ _ e
  row := D.row.imp fun _ _ x => x.tk (.of k)
  own := D.own.imp fun _ _ x => x.tk (.of k)
  few := D.few
/-- the keys' tuples stand among the new objects -/
structure KeysIn (tn : List (Addr × Obj)) (a : Addr) (refs : List Addr) (ks : List (Int × Int)) : Prop where
  top : (a, tupO (refs.map Value.ref)) ∈ tn
  all : All2 (fun (b : Addr) (k : Int × Int) => ∃ u u', (b, tupO [.int k.1 u, .int k.2 u']) ∈ tn) refs ks
theorem fresh_news {h₀ g h' : Heap} {L a : Addr} {o : Obj} {m : Str → Option Value} (F : Fr h₀ L g m) (hf : g.get? a = none) (ho : h'.get? a = some o) : h'.get? a = some o ∧ a ≠ L ∧ h₀.get? a = none := by
  refine ⟨ho, ?_, ?_⟩
  · rintro rfl
    obtain ⟨oL, _, _, hL, _⟩ := F.ns
    rw [hf] at hL; cases hL
  · cases e : h₀.get? a with
    | none => rfl
    | some o' => rw [F.keep _ _ e] at hf; cases hf
theorem keys_news {h₀ g h' : Heap} {L : Addr} {m : Str → Option Value} {ks : List (Int × Int)} {r : Value} (F : Fr h₀ L g m) (K : KeysAt g h' ks r) : ∃ a refs tn, r = .ref a ∧ News h₀ L h' tn ∧ KeysIn tn a refs ks := by
  obtain ⟨a, refs, rfl, hf, ho, hp⟩ := K
  have : ∃ tn, News h₀ L h' tn ∧ All2 (fun (b : Addr) (k : Int × Int) => ∃ u u', (b, tupO [.int k.1 u, .int k.2 u']) ∈ tn) refs ks := by
    clear ho hf
    induction hp with
    | nil => exact ⟨[], News.nil, .nil⟩
    | cons x _ ih =>
      obtain ⟨tn, N, A⟩ := ih
      obtain ⟨hf, u, u', ho⟩ := x
      refine ⟨_ :: tn, fun p hp => ?_, .cons ⟨u, u', .head _⟩ (A.imp fun _ _ y => let ⟨v, v', z⟩ := y; ⟨v, v', .tail _ z⟩)⟩
      rcases List.mem_cons.mp hp with rfl | hp
      · exact fresh_news F hf ho
      · exact N p hp
  obtain ⟨tn, N, A⟩ := this
  refine ⟨a, refs, _ :: tn, rfl, fun p hp => ?_, .head _, A.imp fun _ _ y => let ⟨v, v', z⟩ := y; ⟨v, v', .tail _ z⟩⟩
  rcases List.mem_cons.mp hp with rfl | hp
  · exact fresh_news F hf ho
  · exact N p hp
theorem News_app {h₀ h : Heap} {L : Addr} {p : Addr × Obj} {news tn : List (Addr × Obj)} (x : News h₀ L h (p :: news)) (y : News h₀ L h tn) : News h₀ L h (p :: tn) := fun r hr => by
  rcases List.mem_cons.mp hr with rfl | hr
  · exact x _ (.head _)
  · exact y _ hr
theorem KeysIn.tup {h₀ h : Heap} {L a : Addr} {news tn : List (Addr × Obj)} {refs : List Addr} {ks : List (Int × Int)} (K : KeysIn tn a refs ks) (N : News h₀ L h news) (hs : ∀ p ∈ tn, p ∈ news) : IsTup h a (refs.map Value.ref).toArray ∧ All2 (PairAt h) refs ks :=
  ⟨⟨_, N.get (hs _ K.top), rfl, _, rfl⟩, K.all.imp fun _ _ ⟨u, u', x⟩ => ⟨u, u', _, N.get (hs _ x), rfl, _, rfl⟩⟩
theorem fm0 (x : Int) : 0 ≤ x.fmod 648 := Int.fmod_nonneg_of_pos _ (by decide)
theorem fm1 (x : Int) : x.fmod 648 < 648 := Int.fmod_lt_of_pos _ (by decide)
/-- the walk stops here -/
structure Stop (P : Prop) : Prop where
  out : P
end Mine
end

section
open PySem PySem.W PyProof.Rows PySem.Calls
set_option maxRecDepth 100000
set_option maxHeartbeats 8000000
set_option linter.unusedSimpArgs false
namespace Mine
/-- the head leaves its own lines switched on: off again -/
theorem offP10 : True := by w_top off; trivial
theorem lst_is {h : Heap} {a : Addr} {zs : List Value} (e : h.get? a = some (LCg.lst zs)) : h.IsList a zs.toArray := ⟨_, e, rfl, _, rfl⟩
theorem lawX : PySem.Challenge.rw_mj0065_01.Holds := by
  exact Mine.hd (by
    w_strict (k_go0; repeat' (first
      | (k_unfold; (try dsimp only))
      | (k_end; wrow_close)
      | with_reducible (k_here; (with_reducible show wpAny _ _ (exec (Stmt.Assign _ (Expr.ListComp _ _ _ _) _) _) _ _ _); refine Stop.out ?_)
      | with_reducible (k_here; (with_reducible show wpAny _ _ (call (Value.ref 166) _) _ _ _); k_dflt (refine' useTopA (sp_ordered _ _ _ _ _ _ _ _ _ (by with_reducible assumption)) ?_ (hp := by exact ⟨DataAt.keeps (by with_reducible assumption) (by with_reducible assumption), KeysIn.tup (by with_reducible assumption) (by k_asm) (by intro p9 hp9; (repeat (first | with_reducible assumption | with_reducible exact List.mem_cons_self | refine List.mem_cons_of_mem _ ?_)))⟩); intro r' h' tk' F' N' K' P'; subst P'; (try k_sweep); (try dsimp only); (try k_fold)))
      | with_reducible (k_here; (with_reducible show wpAny _ _ (call (Value.ref 161) _) _ _ _); k_dflt (refine' useTopA (sp_written _ _ _ _ _ _ 0 0) ?_ (hp := by with_reducible assumption); intro r' h' tk' F' N' K' P'; subst P'; (try k_sweep); (try dsimp only); (try k_fold)))
      | with_reducible (k_here; (with_reducible show wpAny _ _ (call (Value.ref 154) _) _ _ _); k_dflt (refine' useTopA (sp_keys _ _ _ (fm0 _) (fm1 _)) ?_; intro r' h' tk' F' N' K' P'; obtain ⟨ks9, hok9, ha9⟩ := P'; obtain ⟨a9, kr9, tn9, hr9, Nt9, hk9⟩ := keys_news (by k_asm) ha9; subst hr9; have N2' := News_app N' Nt9; clear N'; (try k_sweep); (try dsimp only); (try k_fold)))
      | walk1
      | (dsimp only)
      | (leave1; walk_say "STEP leave1"; try dsimp only)
      | fail "no step"))
    rename_i w s₀ s₁ mg mb G Y fa o pm doc kV ho hg KX MX V GL T BT TE TW w9 w8 M w7 w6 hcd xs hs hlay0 hL1 hr1 hl2 w4 w3 sa vs w0 hL ra ww r0 hI0 hr hc1 hc2 K0 hD h₁ D2 ws1 h7 hI1 hC hL2 l13 D1 c1 h6 l12 l2 h5 l11 D ws h4 hI l10 h3 tk0 h2 tk1 t1 hh F N
    have hlen : (List.take 7 xs ++ [16, 17, 3014688, 0, 64]).length ≤ 12 := by simp; omega
    generalize hns : List.take 7 xs ++ [16, 17, 3014688, 0, 64] = ns at hI hlen
    have hwn : ws.length = ns.length := hI.length
    have hwl : ws.length ≤ 12 := by rw [hwn]; exact hlen
    clear K' ha9 hI1 hC hL2 hns
    refine ⟨?_⟩
    k_dflt (refine' assign_comp_local (cl := []) (ax := D) (items := ws.toArray) (Res := RowRes ns) ?phh ?phsw ?phclos ?phcell ?phkind ?phnames ?phx ?phy ?php ?phv ?phL ?phfew ?pF ?pN ?pmono ?pturn ?pfin)
    case phh => rfl
    case phsw => rfl
    case phclos => rfl
    case phcell => decide
    case phkind => rfl
    case phnames => decide
    case phx => rfl
    case phy => rfl
    case php => rfl
    case phv => exact wpAny_Name (wpAny_loadName_local rfl rfl F.ns rfl ⟨rfl, rfl⟩) (by decide)
    case phL => exact ⟨_, N.get (.head _), rfl, _, rfl⟩
    case phfew => simpa using hwl
    case pF => exact F
    case pN => exact N
    case pmono => exact RowRes.mono
    case pturn =>
      intro i v C h tk' m₂ E' hv hK hn hc
      obtain ⟨n, t, rfl, hni⟩ := hI.at i v (by simpa using hv)
      k_dflt (refine' wpAny_mono (call_elt (sp_row w n t) ?pk9 (F.keeps hK) KX (N.grown hK) T ?pa1 ?pa2 ?pa3 ?pa4 ?pa5 ?pa6 ?pe ?pho ?pa7 hn hc ?pa8 ?pa9 ?pa10) (fun y s₄ x => ?_) fun _ _ e => e)
      case pk9 => decide
      case pa1 => rfl
      case pa2 => rfl
      case pa3 => rfl
      case pa4 => rfl
      case pa5 => rfl
      case pa6 => decide
      case pe => k_is
      case pho => k_is
      case pa7 => rfl
      case pa8 => rfl
      case pa9 => rfl
      case pa10 => decide
      obtain ⟨h', tk'', e, k, p⟩ := x
      exact ⟨h', tk'', e, k, RowRes.of hni p⟩
    case pfin =>
      intro Dr h tk' zs hz hR hT F1 N1
      obtain ⟨refs, rfl, hrow⟩ := refs_of (by rw [hz, List.size_toArray]; exact hwn) hR
      clear N F hR hT
      (try dsimp only)
      (try k_fold)
      w_strict (repeat' (first
      | (k_unfold; (try dsimp only))
      | (k_end; wrow_close)
      | with_reducible (k_here; (with_reducible show wpAny _ _ (exec (Stmt.Assign _ (Expr.ListComp _ _ _ _) _) _) _ _ _); refine Stop.out ?_)
      | with_reducible (k_here; (with_reducible show wpAny _ _ (call (Value.ref 166) _) _ _ _); k_dflt (refine' useTopA (sp_ordered _ _ _ _ _ _ _ _ _ (by with_reducible assumption)) ?_ (hp := by exact ⟨DataAt.keeps (by with_reducible assumption) (by with_reducible assumption), KeysIn.tup (by with_reducible assumption) (by k_asm) (by intro p9 hp9; (repeat (first | with_reducible assumption | with_reducible exact List.mem_cons_self | refine List.mem_cons_of_mem _ ?_)))⟩); intro r' h' tk' F' N' K' P'; subst P'; (try k_sweep); (try dsimp only); (try k_fold)))
      | with_reducible (k_here; (with_reducible show wpAny _ _ (call (Value.ref 161) _) _ _ _); k_dflt (refine' useTopA (sp_written _ _ _ _ _ _ 0 0) ?_ (hp := by with_reducible assumption); intro r' h' tk' F' N' K' P'; subst P'; (try k_sweep); (try dsimp only); (try k_fold)))
      | with_reducible (k_here; (with_reducible show wpAny _ _ (call (Value.ref 154) _) _ _ _); k_dflt (refine' useTopA (sp_keys _ _ _ (fm0 _) (fm1 _)) ?_; intro r' h' tk' F' N' K' P'; obtain ⟨ks9, hok9, ha9⟩ := P'; obtain ⟨a9, kr9, tn9, hr9, Nt9, hk9⟩ := keys_news (by k_asm) ha9; subst hr9; have N2' := News_app N' Nt9; clear N'; (try k_sweep); (try dsimp only); (try k_fold)))
      | walk1
      | (dsimp only)
      | (leave1; walk_say "STEP leave1"; try dsimp only)
      | fail "no step"))
      refine ⟨?_⟩
      k_dflt (refine' assign_comp_local (cl := []) (ax := D) (items := ws.toArray) (Res := OwnRes ns) ?qhh ?qhsw ?qhclos ?qhcell ?qhkind ?qhnames ?qhx ?qhy ?qhp ?qhv ?qhL ?qhfew ?qF ?qN ?qmono ?qturn ?qfin)
      case qhh => rfl
      case qhsw => rfl
      case qhclos => rfl
      case qhcell => decide
      case qhkind => rfl
      case qhnames => decide
      case qhx => rfl
      case qhy => rfl
      case qhp => rfl
      case qhv => exact wpAny_Name (wpAny_loadName_local rfl rfl F1.ns rfl ⟨rfl, rfl⟩) (by decide)
      case qhL => exact ⟨_, N1.get (.tail _ (.head _)), rfl, _, rfl⟩
      case qhfew => simpa using hwl
      case qF => exact F1
      case qN => exact N1
      case qmono => exact OwnRes.mono
      case qturn =>
        intro i v C h tk' m₂ E' hv hK hn hc
        obtain ⟨n, t, rfl, hni⟩ := hI.at i v (by simpa using hv)
        k_dflt (refine' wpAny_mono (call_elt (sp_own w n t) ?qk9 (F1.keeps hK) KX (N1.grown hK) T ?qa1 ?qa2 ?qa3 ?qa4 ?qa5 ?qa6 ?qe ?qho ?qa7 hn hc ?qa8 ?qa9 ?qa10) (fun y s₄ x => ?_) fun _ _ e => e)
        case qk9 => decide
        case qa1 => rfl
        case qa2 => rfl
        case qa3 => rfl
        case qa4 => rfl
        case qa5 => rfl
        case qa6 => decide
        case qe => k_is
        case qho => k_is
        case qa7 => rfl
        case qa8 => rfl
        case qa9 => rfl
        case qa10 => decide
        obtain ⟨h', tk'', e, k, p⟩ := x
        exact ⟨h', tk'', e, k, OwnRes.of hni p⟩
      case qfin =>
        intro Do h2 tk' zs hz2 hR hT F2 N2
        obtain ⟨orefs, rfl, hown⟩ := refs_of (by rw [hz2, List.size_toArray]; exact hwn) hR
        have hdata : DataAt h2 Dr Do refs orefs ns := ⟨lst_is (N2.get (.tail _ (.head _))), lst_is (N2.get (.head _)), hrow.imp fun _ _ x => x.tk hT, hown, by rw [hrow.length]; exact hlen⟩
        clear N1 F1 hR hT hrow hown
        (try dsimp only)
        (try k_fold)
        w_strict (repeat' (first
      | (k_unfold; (try dsimp only))
      | (k_end; wrow_close)
      | with_reducible (k_here; (with_reducible show wpAny _ _ (exec (Stmt.Assign _ (Expr.ListComp _ _ _ _) _) _) _ _ _); refine Stop.out ?_)
      | with_reducible (k_here; (with_reducible show wpAny _ _ (call (Value.ref 166) _) _ _ _); k_dflt (refine' useTopA (sp_ordered _ _ _ _ _ _ _ _ _ (by with_reducible assumption)) ?_ (hp := by exact ⟨DataAt.keeps (by with_reducible assumption) (by with_reducible assumption), KeysIn.tup (by with_reducible assumption) (by k_asm) (by intro p9 hp9; (repeat (first | with_reducible assumption | with_reducible exact List.mem_cons_self | refine List.mem_cons_of_mem _ ?_)))⟩); intro r' h' tk' F' N' K' P'; subst P'; (try k_sweep); (try dsimp only); (try k_fold)))
      | with_reducible (k_here; (with_reducible show wpAny _ _ (call (Value.ref 161) _) _ _ _); k_dflt (refine' useTopA (sp_written _ _ _ _ _ _ 0 0) ?_ (hp := by with_reducible assumption); intro r' h' tk' F' N' K' P'; subst P'; (try k_sweep); (try dsimp only); (try k_fold)))
      | with_reducible (k_here; (with_reducible show wpAny _ _ (call (Value.ref 154) _) _ _ _); k_dflt (refine' useTopA (sp_keys _ _ _ (fm0 _) (fm1 _)) ?_; intro r' h' tk' F' N' K' P'; obtain ⟨ks9, hok9, ha9⟩ := P'; obtain ⟨a9, kr9, tn9, hr9, Nt9, hk9⟩ := keys_news (by k_asm) ha9; subst hr9; have N2' := News_app N' Nt9; clear N'; (try k_sweep); (try dsimp only); (try k_fold)))
      | walk1
      | (dsimp only)
      | (leave1; walk_say "STEP leave1"; try dsimp only)
      | fail "no step"))
    )
end Mine
end


theorem PySem.Challenge.cw_mj0065_01_holds : PySem.Challenge.rw_mj0065_01.Holds := by
  exact Mine.lawX
