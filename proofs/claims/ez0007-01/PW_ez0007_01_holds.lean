import PyProof.Rows.All
import Wide.All
import OpenK.AllK
import Wide.FinOn
import PySem.Challenge.RW_ez0007_01
set_option Elab.async false

section
open PySem PySem.W PyProof.Rows
namespace Mine
set_option maxRecDepth 100000
set_option maxHeartbeats 8000000
open_top hd for PySem.Challenge.rw_ez0007_01
end Mine
end

section
open PySem PySem.W PySem.Calls PyProof.Rows
set_option maxRecDepth 100000
set_option maxHeartbeats 8000000
namespace Mine
abbrev Led := List (Addr × Obj)
abbrev BackT := Heap → Addr → (Str → Option Value) → Shared → (Value → Shared → Prop) → Prop
def Ct (w : World) (mean : ExcName → Option Value) (mg mb : Str → Option Value) (f d : Nat) (news : Led) (vs : List Value) (Back : BackT) : Prop :=
  ∀ (dp un : Nat) (gd : Option (List Code)) (cn : Str) (cs : Scope) (a : Addr) (ccd : Value) (cl : List (Str × Addr)) (outer : List Env) (A₀ : Around) (base h₀ : Heap) (L : Addr) (m : Str → Option Value) (s : Shared) (Q E : Value → Shared → Prop),
    Below A₀ base outer h₀ → Fr h₀ L s.heap m → (Mine.hd.heap_39 w.params).In h₀ → News h₀ L s.heap news →
    Top Mine.hd.view_39 (looseW Mine.hd.view_39 [Str.ofString "BTClibValueError", Str.ofString "BTClibTypeError", Str.ofString "bytes_from_octets"]) mean mg mb h₀ → cs.kind = .function →
    dp + d < recursionLimit → un + 8 * d < cLine → Back h₀ L m s Q →
    wpAny (model Challenge.rw_ez0007_01.row.prog w) (ktrTop dp un gd cn cs L a ccd cl outer) (call (.ref f) vs) Q E s
theorem Ct.use {w : World} {mean : ExcName → Option Value} {mg mb : Str → Option Value} {f d : Nat} {news : Led} {vs : List Value} {Back : BackT} (C : Ct w mean mg mb f d news vs Back)
    {dp un : Nat} {gd : Option (List Code)} {cn : Str} {cs : Scope} {a : Addr} {ccd : Value} {cl : List (Str × Addr)} {outer : List Env} {A₀ : Around} {base h₀ : Heap} {L : Addr} {m : Str → Option Value} {s : Shared} {Q E : Value → Shared → Prop}
    (B : Below A₀ base outer h₀) (F : Fr h₀ L s.heap m) (X : (Mine.hd.heap_39 w.params).In h₀) (N : News h₀ L s.heap news)
    (T : Top Mine.hd.view_39 (looseW Mine.hd.view_39 [Str.ofString "BTClibValueError", Str.ofString "BTClibTypeError", Str.ofString "bytes_from_octets"]) mean mg mb h₀) (hk : cs.kind = .function)
    (hd : dp + d < recursionLimit) (hu : un + 8 * d < cLine) (hb : Back h₀ L m s Q) :
    wpAny (model Challenge.rw_ez0007_01.row.prog w) (ktrTop dp un gd cn cs L a ccd cl outer) (call (.ref f) vs) Q E s :=
  C _ _ _ _ _ _ _ _ _ _ _ _ _ _ _ _ _ B F X N T hk hd hu hb
def BInt (news : Led) (x : Int) : BackT := fun h₀ L m s Q =>
  ∀ (t : Tok) (h' : Heap) (tk' : Nat), Fr h₀ L h' m → News h₀ L h' news → Q (.int x t) { s with heap := h', toks := tk' }

def W (n : Int) : Prop := 0 ≤ n ∧ n < 18446744073709551616
def rotl (n b : Int) : Int := Builtin.bitAnd (Builtin.bitOr (n * 2 ^ b.toNat) (n.fdiv (2 ^ (64 - b).toNat))) 18446744073709551615
theorem W.and (x : Int) : W (Builtin.bitAnd x 18446744073709551615) := by
  have h := bitAnd_range x (y := 18446744073709551615) (by decide)
  exact ⟨h.1, by omega⟩
theorem W.rotl (n b : Int) : W (rotl n b) := W.and _

theorem xor_two_and : ∀ (x y : Nat), x + y = (x ^^^ y) + 2 * (x &&& y) := by
  intro x
  induction x using Nat.strongRecOn with
  | _ x ih =>
    intro y
    by_cases h : x = 0
    · subst h; simp
    · have h1 := ih (x / 2) (by omega) (y / 2)
      have h2 : (x ^^^ y) / 2 = x / 2 ^^^ y / 2 := Nat.xor_div_two
      have h3 : (x &&& y) / 2 = x / 2 &&& y / 2 := Nat.and_div_two
      have h4 : (x ^^^ y) % 2 = 1 ↔ ¬ ((x % 2 = 1) ↔ (y % 2 = 1)) := Nat.xor_mod_two_eq_one
      have h5 : (x &&& y) % 2 = 1 ↔ (x % 2 = 1 ∧ y % 2 = 1) := Nat.and_mod_two_eq_one
      omega
theorem or_and_nat : ∀ (x y : Nat), x + y = (x ||| y) + (x &&& y) := by
  intro x
  induction x using Nat.strongRecOn with
  | _ x ih =>
    intro y
    by_cases h : x = 0
    · subst h; simp
    · have h1 := ih (x / 2) (by omega) (y / 2)
      have h2 : (x ||| y) / 2 = x / 2 ||| y / 2 := Nat.or_div_two
      have h3 : (x &&& y) / 2 = x / 2 &&& y / 2 := Nat.and_div_two
      have h4 : (x ||| y) % 2 = 1 ↔ (x % 2 = 1 ∨ y % 2 = 1) := Nat.or_mod_two_eq_one
      have h5 : (x &&& y) % 2 = 1 ↔ (x % 2 = 1 ∧ y % 2 = 1) := Nat.and_mod_two_eq_one
      omega
theorem bitXor_toNat {x y : Int} (hx : 0 ≤ x) (hy : 0 ≤ y) : Builtin.bitXor x y = ((x.toNat ^^^ y.toNat : Nat) : Int) := by
  rw [bitXor_and, bitAnd_pp hx hy]
  have h := xor_two_and x.toNat y.toNat
  omega
theorem W.xor {x y : Int} (hx : W x) (hy : W y) : W (Builtin.bitXor x y) := by
  rw [bitXor_toNat hx.1 hy.1]
  have h : x.toNat ^^^ y.toNat < 2 ^ 64 := Nat.xor_lt_two_pow (by have := hx.2; have := hx.1; omega) (by have := hy.2; have := hy.1; omega)
  exact ⟨by omega, by omega⟩

theorem W.lit {x : Int} (h : decide (0 ≤ x ∧ x < 18446744073709551616) = true := by decide) : W x := by
  have h' := of_decide_eq_true h
  exact h'
theorem rotl_ct (w : World) (mean : ExcName → Option Value) (mg mb : Str → Option Value) (news : Led) (n b : Int) (tn tb : Tok) (hw : W n) (b0 : 0 ≤ b) (b1 : b ≤ 64) :
    Ct w mean mg mb 87 1 news [.int n tn, .int b tb] (BInt news (rotl n b)) := by
  unfold Ct
  k_with_none
  k_fill
  intro dp un gd cn cs a ccd cl outer A₀ base h₀ L m s Q E B F X N T hk hd hu hret
  obtain ⟨h0, h1⟩ := hw
  refine wpAny_call ?_
  k_dflt ktr_enter
  k_steps
  all_goals exact hret _ _ _ (by k_asm) (by k_asm)

def sround (v0 v1 v2 v3 : Int) : Int × Int × Int × Int :=
  let v0 := Builtin.bitAnd (v0 + v1) 18446744073709551615
  let v1 := rotl v1 13
  let v1 := Builtin.bitXor v1 v0
  let v0 := rotl v0 32
  let v2 := Builtin.bitAnd (v2 + v3) 18446744073709551615
  let v3 := rotl v3 16
  let v3 := Builtin.bitXor v3 v2
  let v0 := Builtin.bitAnd (v0 + v3) 18446744073709551615
  let v3 := rotl v3 21
  let v3 := Builtin.bitXor v3 v0
  let v2 := Builtin.bitAnd (v2 + v1) 18446744073709551615
  let v1 := rotl v1 17
  let v1 := Builtin.bitXor v1 v2
  let v2 := rotl v2 32
  (v0, v1, v2, v3)
def BRound (news : Led) (v0 v1 v2 v3 : Int) : BackT := fun h₀ L m s Q =>
  ∀ (a b c d : Int) (t0 t1 t2 t3 : Tok) (r : Addr) (h' : Heap) (tk' : Nat), sround v0 v1 v2 v3 = (a, b, c, d) → W a → W b → W c → W d → Fr h₀ L h' m →
    News h₀ L h' ((r, { cls := .type "tuple", data := .seq #[.int a t0, .int b t1, .int c t2, .int d t3] 0 }) :: news) → (∀ p ∈ news, p.1 < r) → Q (.ref r) { s with heap := h', toks := tk' }

local macro_rules | `(tactic| walk_at "call ref") => `(tactic| (
  k_here
  (with_reducible show wpAny _ _ (PySem.call (Value.ref 87) _ _) _ _ _)
  k_dflt (refine' Ct.use (rotl_ct _ _ _ _ _ _ _ _ _ ?h1 ?h2 ?h3) ?k1 ?k2 ?k3 ?k4 ?k5 ?kK ?kd ?ku ?_)
  (case k1 => k_asm)
  (case k2 => k_asm)
  (case k3 => k_asm)
  (case k4 => k_asm)
  (case k5 => k_asm)
  (case kK => first | exact rfl | assumption)
  (case kd => ktr_room)
  (case ku => ktr_units)
  (case h2 => decide)
  (case h3 => decide)
  (case h1 => repeat (first | assumption | exact W.and _ | exact W.rotl _ _ | refine W.xor ?_ ?_))
  intro t9 h9 tk9 F9 N9
  (try dsimp only)
  (try k_fold)))

theorem round_ct (w : World) (mean : ExcName → Option Value) (mg mb : Str → Option Value) (news : Led) (v0 v1 v2 v3 : Int) (t0 t1 t2 t3 : Tok) (hw0 : W v0) (hw1 : W v1) (hw2 : W v2) (hw3 : W v3) :
    Ct w mean mg mb 94 2 news [.int v0 t0, .int v1 t1, .int v2 t2, .int v3 t3] (BRound news v0 v1 v2 v3) := by
  unfold Ct
  k_with_none
  k_fill
  intro dp un gd cn cs a ccd cl outer A₀ base h₀ L m s Q E B F X N T hk hd hu hret
  refine wpAny_call ?_
  k_dflt ktr_enter
  k_steps
  all_goals (
    refine hret _ _ _ _ _ _ _ _ _ _ _ rfl ?_ ?_ ?_ ?_ (by k_asm) (by k_asm) (by assumption)
    all_goals repeat (first | assumption | exact W.and _ | exact W.rotl _ _ | refine W.xor ?_ ?_))
end Mine
end

section
open PySem PySem.W PySem.Calls PyProof.Rows
set_option maxRecDepth 100000
set_option maxHeartbeats 8000000
namespace Mine
/-! bytes(b) for bytes b -/
theorem bb_special : typeLookup (.type "bytes") "__bytes__" = pure (some (.builtin "bytes.__bytes__")) := by rw [typeLookup_type, builtinLookup_eq_fast]; kernel_rfl
section
variable {prog : Program} {w : World} {A : Around} {E : Value → Shared → Prop} {s : Shared}
theorem bb_new {b : Array UInt8} {t : Tok} {Q : Value → Shared → Prop} (hQ : Q (.bytes b t) s) :
    codeAny (model prog w) A (.call (.builtin "bytes.__new__") ⟨[.type "bytes", .bytes b t], []⟩) (wants Q E) s := by
  refine codeAny_of_tree ?_
  show wpAny _ A.in1 (do checkBuiltinCall "bytes.__new__" ⟨[.type "bytes", .bytes b t], []⟩; again (.builtin "bytes.__new__" ⟨[.type "bytes", .bytes b t], []⟩)) _ _ s
  refine wpAny_bind (wpAny_of_eq (F.bm_newCall _) (wpAny_pure ⟨plainId_quiet F.bm_plain _, codeAny_builtin F.bm_entry ?_⟩))
  rw [Around.under_plainId F.bm_plain _]
  have hT : s.TypeIs (.bytes b t) "bytes" := typeIs_bytes _ _ _
  unfold Builtin.«bytes.__new__»
  refine wpAny_bind (wpAny_of_eq (a := true) rfl ?_)
  refine bm_if_false rfl ?_
  refine wpAny_bind (wpAny_of_eq F.bm_sub ?_)
  refine bm_if_false rfl ?_
  refine wpAny_bind (wpAny_of_eq (F.bm_bind _) ?_)
  refine wpAny_bind (wpAny_of_eq (a := ()) rfl ?_)
  refine wpAny_bind (wpAny_of_eq (a := ()) rfl ?_)
  refine bm_if_false rfl ?_
  refine wpAny_bind (wpAny_specialOf hT bb_special ?_)
  show wpAny _ _ (PySem.rule "bytes.__new__.of-bytes" >>= _) _ _ _
  refine wpAny_bind (wpAny_rule ?_)
  refine wpAny_of_eq (a := Fin.done (.ret (.bytes b t))) (by first | rfl | kernel_rfl) ?_
  exact hQ
theorem call_bytes_bytes {b : Array UInt8} {t : Tok} {Q : Value → Shared → Prop} (hQ : Q (.bytes b t) s) : wpAny (model prog w) A (call (.type "bytes") [.bytes b t]) Q E s := by
  refine callType_codes (Q₁ := fun obj s₁ => s₁.TypeIs obj "bytes" ∧ Q obj s₁) F.bm_called (F.bm_typeCall _) F.entry_object_init
    (bb_new ⟨PySem.W.typeIs_bytes _ _ _, hQ⟩) fun obj s₁ h₁ => ?_
  exact ⟨h₁.1, F.args_object_init_2 obj _, object_init_meets F.bm_called.init.lookup F.bm_called.made (by decide) prog w A.in1 _ s₁ ⟨h₁.1, rfl, h₁.2⟩⟩
end
end Mine
end

section
open PySem PySem.W PySem.Calls PyProof.Rows
set_option maxRecDepth 100000
set_option maxHeartbeats 8000000
namespace Mine
def hexCps (l : List UInt8) : List Nat := l.flatMap fun c => [Builtin.Bytes.hexDigit (c.toNat / 16), Builtin.Bytes.hexDigit (c.toNat % 16)]
def hexStr (b : Array UInt8) : PySem.Str := ⟨(hexCps b.toList).toArray⟩
theorem hexCps_length (l : List UInt8) : (hexCps l).length = 2 * l.length := by
  induction l with
  | nil => rfl
  | cons c r ih => simp only [hexCps, List.flatMap_cons, List.length_append, List.length_cons, List.length_nil] at ih ⊢; omega
theorem hex_fold : ∀ (l : List UInt8) (k : Nat) (out : Array Nat), (l.zipIdx k).foldl (fun (out : Array Nat) (p : UInt8 × Nat) => (out.push (Builtin.Bytes.hexDigit (p.1.toNat / 16))).push (Builtin.Bytes.hexDigit (p.1.toNat % 16))) out = out ++ (hexCps l).toArray
  | [], _, out => by simp [hexCps]
  | c :: r, k, out => by
    rw [List.zipIdx_cons, List.foldl_cons, hex_fold r]
    simp [hexCps]
section
variable {prog : Program} {w : World} {A : Around} {E : Value → Shared → Prop} {s : Shared}
theorem meets_hex {b : Array UInt8} {t : Tok} : Meets (Builtin.«bytes.hex» ⟨[.bytes b t], []⟩) (fun _ R s => 2 * b.size ≤ sizeLine ∧ R (.ok (.ret (.str (hexStr b) s.toks))) { s with toks := s.toks + 1 }) := by
  refine .of_wp fun prog w A R s hS => ?_
  obtain ⟨hsz, h⟩ := hS
  unfold Builtin.«bytes.hex» Builtin.Bytes.hexM Builtin.Bytes.hexOf
  refine wpAny_bind (wpAny_of_eq (a := [none, none]) (by first | rfl | kernel_rfl) ?_)
  refine wpAny_bind (wpAny_of_eq (a := 1) rfl ?_)
  refine wpAny_bind (wpAny_of_eq (a := ()) rfl ?_)
  refine wpAny_bind (wpAny_of_eq (a := none) rfl ?_)
  refine wpAny_bind (wpAny_of_eq (a := b) rfl ?_)
  have e : (b.toList.zipIdx.foldl (fun (out : Array Nat) (p : UInt8 × Nat) => (out.push (Builtin.Bytes.hexDigit (p.1.toNat / 16))).push (Builtin.Bytes.hexDigit (p.1.toNat % 16))) #[]) = (hexCps b.toList).toArray := by
    rw [hex_fold]; simp
  show wpAny _ _ (retStr ⟨b.toList.zipIdx.foldl (fun (out : Array Nat) (p : UInt8 × Nat) => (out.push (Builtin.Bytes.hexDigit (p.1.toNat / 16))).push (Builtin.Bytes.hexDigit (p.1.toNat % 16))) #[]⟩) _ _ _
  rw [e]
  show wpAny _ _ (mkStr (hexStr b) >>= fun v => ret v) _ _ _
  refine wpAny_bind (wpAny_mkStr (wpAny_pure ⟨_, rfl, h⟩) ?_)
  show (hexCps b.toList).toArray.size ≤ sizeLine
  rw [List.size_toArray, hexCps_length, Array.length_toList]
  exact hsz
theorem call_hex {b : Array UInt8} {t : Tok} {Q : Value → Shared → Prop} (hz : 2 * b.size ≤ sizeLine) (h : Q (.str (hexStr b) s.toks) { s with toks := s.toks + 1 }) :
    wpAny (model prog w) A (call (.builtin "bytes.hex") [.bytes b t]) Q E s :=
  call_meets FB.slot_bytes_hex (typeIs_bytes _ _ _) FB.entry_bytes_hex (FB.args_bytes_hex_1 _) meets_hex ⟨hz, h⟩
theorem getm_hex {M : Model} {b : Array UInt8} {t : Tok} {pl : Sem Bool} {Q : Value × List Value → Shared → Prop} (h : Q (.builtin "bytes.hex", [.bytes b t]) s) : wpAny M A (getMethod (.bytes b t) "hex" pl) Q E s := by
  with_reducible exact KBd.method_of (.bytes b t) (typeIs_bytes _ _ _) FB.slot_bytes_hex FB.type_bytes_hex KBd.noRef h
end
end Mine
end

section
open PySem PySem.W PySem.Calls PyProof.Rows
set_option maxRecDepth 100000
set_option maxHeartbeats 8000000
namespace Mine
/-! bytes.fromhex(x) -/
def bdh : Obj := { cls := .type "builtin_function_or_method", data := .fields #[.builtin "bytes.fromhex", .type "bytes"] }
theorem fh_type : typeOf (.builtin "bytes.fromhex") = pure (.type "classmethod_descriptor") := by show builtinType _ = _; rw [builtinType_eq_fast]; kernel_rfl
theorem fh_entry : entryFor table "bytes.fromhex" = some Builtin.«bytes.fromhex» := entryFor_of_tree (by kernel_rfl)
theorem fh_quiet {as : Args} : (Code.builtin "bytes.fromhex" as).quiet = true := Code.quiet_builtin _ (by decide +kernel)
theorem fh_isType : isType (.type "bytes") = pure true := by first | rfl | kernel_rfl | (unfold isType; rw [isSubtype_type]; kernel_rfl)
theorem fh_owner : (kfb_private% "ownerAndName") "bytes.fromhex" = ("bytes", "fromhex") := by first | decide +kernel | kernel_rfl
theorem fh_check {x : PySem.Str} {t : Tok} : checkBoundCall "bytes.fromhex" ⟨[.type "bytes", .str x t], []⟩ = pure () := by first | kernel_rfl | rfl
section
variable {prog : Program} {w : World} {M : Model} {A : Around} {E : Value → Shared → Prop} {s : Shared} {K : Frag} {h₀ : Heap} {L : Addr} {m : PySem.Str → Option Value} {news : List (Addr × Obj)}
theorem fh_get {P : Fin → Shared → Prop} (h : P (.done (.ret (.ref s.heap.objs.size))) { s with heap := s.heap.push bdh }) :
    wpAny M A (Builtin.«classmethod_descriptor.__get__» ⟨[.builtin "bytes.fromhex", .none, .type "bytes"], []⟩) P E s := by
  unfold Builtin.«classmethod_descriptor.__get__»
  refine wpAny_bind (wpAny_of_eq (a := (.builtin "bytes.fromhex", none, some (.type "bytes"))) (by first | rfl | kernel_rfl) ?_)
  simp only [fh_owner]
  refine wpAny_bind (wpAny_of_eq (a := .type "bytes") rfl ?_)
  refine wpAny_bind (wpAny_of_eq (a := true) fh_isType ?_)
  refine KFB.if_not rfl ?_
  refine wpAny_bind (wpAny_of_eq (a := true) F.bm_sub ?_)
  refine KFB.if_not rfl ?_
  exact wpAny_bind (wpAny_newObj_type (wpAny_pure h))
theorem fh_getm {pl : Sem Bool} {Q : Value × List Value → Shared → Prop} (F : Fr h₀ L s.heap m) (N : News h₀ L s.heap news) (X₀ : K.In h₀)
    (e : findCls K (.type "bytes") (.type "type") (PySem.Str.ofString "fromhex") = some (.get (.builtin "classmethod_descriptor.__get__") (.builtin "bytes.fromhex") .none (.type "bytes")))
    (h : ∀ x h', Fr h₀ L h' m → News h₀ L h' ((x, bdh) :: news) → (∀ p ∈ news, p.1 < x) → Q (.ref x, []) { s with heap := h', toks := s.toks + 1 }) :
    wpAny (model prog w) A (getMethod (.type "bytes") (PySem.Str.ofString "fromhex") pl) Q E s := by
  have X := X₀.keeps F.keep
  have hstub : opaqueClassAbove (.type "bytes") = pure none := by unfold opaqueClassAbove; dsimp only; rw [show Manifest.isStub "bytes" = false by decide +kernel]; rfl
  have ht : typeOf (.type "bytes") = pure (.type "type") := by first | rfl | kernel_rfl
  have L0 : Looks (model prog w) s.heap (typeOf (.type "bytes")) (.type "type") := Looks.of_pure ht
  have hg : findIn K (.type "type") "__getattribute__" = some (some (.builtin "type.__getattribute__")) := type_tga
  have LO : Looks (model prog w) s.heap (opaqueClassAbove (.type "bytes")) none := Looks.of_pure hstub
  unfold getMethod specialOf
  refine wpAny_bind (wpAny_bind (L0.here ((looks_findIn X hg).here ?_)))
  dsimp only
  rw [if_pos canon_tga]
  refine wpAny_bind (wpAny_mono (Q := fun v => Q (v, [])) (E := E) ?_ (fun _ _ z => wpAny_pure z) fun _ _ z => z)
  refine cls_open X LO L0 hg (looks_hook X (r := none) (by rfl)) (by show subIn K _ _ = _; rfl) e ?_
  show wpAny _ _ (holding [.builtin "bytes.fromhex"] (call (.builtin "classmethod_descriptor.__get__") [.builtin "bytes.fromhex", .none, .type "bytes"]) >>= fun v => ret v) _ _ _
  exact wpAny_bind (wpAny_holding (wpAny_call_entry KFB.slot_get fh_type KFB.entry_get (fh_get ⟨_, rfl, wpAny_pure (wpAny_pure (h _ _ (F.push _) (News.push F N _) fun p hp => Heap.lt_size (N p hp).1))⟩) (KFB.args_get _ _ _)))

def BoundAt (x : Addr) (h : Heap) : Prop := h.get? x = some bdh
theorem fh_at {x : Addr} {h : Heap} (N : News h₀ L h news) (hm : (x, bdh) ∈ news) : BoundAt x h := N.get hm
theorem fh_with {pos : Pos} {u : Addr} {first : List Value} {args : List (Bool × Sem Value)} {Q : Value → Shared → Prop} (hp : args.any (·.1) = false)
    (h : wpAny M A (evalArgs (.ref u) true args []) (fun x s₁ => BoundAt u s₁.heap ∧ wpAny M A (call (.ref u) (first ++ x.pos) x.kw) Q E s₁) E s) :
    wpAny M A (callWith pos (.ref u) first args []) Q E s := by
  unfold callWith
  refine wpAny_bind (wpAny_holding (wpAny_mono h (fun x s₁ h₁ => wpAny_bind (wpAny_standAt ?_)) fun _ _ x => x))
  obtain ⟨ho, hcall⟩ := h₁
  have e1 : (Value.type "builtin_function_or_method" != Value.type "method") = true := by decide
  have e2 : (Value.type "builtin_function_or_method" == Value.type "builtin_function_or_method" || Value.type "builtin_function_or_method" == Value.type "method-wrapper") = true := by decide
  simp only [hp, List.any_nil, Bool.or_false]
  refine wpAny_bind (m := keeperOf (.ref u)) ?_
  unfold keeperOf
  refine wpAny_bind (wpAny_load ho ?_)
  simp only [bdh, e1, e2, if_true]
  refine wpAny_pure ?_
  exact wpAny_bind (wpAny_mono hcall (fun r s₂ hr => wpAny_bind (wpAny_holding (wpAny_point (wpAny_pure hr)))) fun _ _ x => x)
theorem fh_callWith {pos : Pos} {u : Addr} {first : List Value} {env : Env} {e : Expr} {rest : List Expr} {Q : Value → Shared → Prop}
    (h : wpAny M A (spliced (backTo pos (starEach (e :: rest) env))) (fun vs s₁ => BoundAt u s₁.heap ∧ wpAny M A (call (.ref u) (first ++ vs)) Q E s₁) E s)
    (he : starEach (e :: rest) env = (false, eval e env) :: starEach rest env := by rfl) (hplain : (backTo pos (starEach rest env)).any (·.1) = false := by rfl) :
    wpAny M A (callWith pos (.ref u) first (backTo pos (starEach (e :: rest) env)) []) Q E s := by
  rw [he] at h ⊢
  refine fh_with (by show (false || (backTo pos (starEach rest env)).any (·.1)) = false; rw [hplain]; rfl) ?_
  exact evalArgs_plain h

theorem fh_walk {f : Nat → Nat → List Nat → Array UInt8 → Except Nat (Array UInt8)} (h0 : ∀ n i o, f n i [] o = .ok o)
    (h2 : ∀ (n i : Nat) (c : UInt8) (r : List Nat) (o : Array UInt8), f (n + 1) i (Builtin.Bytes.hexDigit (c.toNat / 16) :: Builtin.Bytes.hexDigit (c.toNat % 16) :: r) o = f n (i + 2) r (o.push c)) :
    ∀ (l : List UInt8) (n i : Nat) (o : Array UInt8), l.length ≤ n → f n i (hexCps l) o = .ok (o ++ l.toArray)
  | [], n, i, o, _ => by rw [show hexCps [] = [] from rfl, h0]; simp
  | c :: r, 0, i, o, h => by simp at h
  | c :: r, n + 1, i, o, h => by
    rw [show hexCps (c :: r) = Builtin.Bytes.hexDigit (c.toNat / 16) :: Builtin.Bytes.hexDigit (c.toNat % 16) :: hexCps r from rfl, h2, fh_walk h0 h2 r n _ _ (by simpa using h)]
    simp
theorem hexCps_lt : ∀ (l : List UInt8), ∀ c ∈ hexCps l, c < 128
  | [], c, h => by simp [hexCps] at h
  | d :: r, c, h => by
    have hd := d.toNat_lt
    have k : ∀ n, n < 16 → Builtin.Bytes.hexDigit n < 128 := by intro n hn; unfold Builtin.Bytes.hexDigit; split <;> omega
    rw [show hexCps (d :: r) = Builtin.Bytes.hexDigit (d.toNat / 16) :: Builtin.Bytes.hexDigit (d.toNat % 16) :: hexCps r from rfl] at h
    rcases List.mem_cons.mp h with rfl | h
    · exact k _ (by omega)
    rcases List.mem_cons.mp h with rfl | h
    · exact k _ (by omega)
    exact hexCps_lt r c h
theorem fh_two {f : Nat → Nat → List Nat → Array UInt8 → Except Nat (Array UInt8)}
    (H : ∀ a, a < 16 → ∀ b, b < 16 → ∀ n i r o, f (n + 1) i (Builtin.Bytes.hexDigit a :: Builtin.Bytes.hexDigit b :: r) o = f n (i + 2) r (o.push (a * 16 + b).toUInt8)) :
    ∀ (n i : Nat) (c : UInt8) (r : List Nat) (o : Array UInt8), f (n + 1) i (Builtin.Bytes.hexDigit (c.toNat / 16) :: Builtin.Bytes.hexDigit (c.toNat % 16) :: r) o = f n (i + 2) r (o.push c) := by
  intro n i c r o
  have hc := c.toNat_lt
  rw [H _ (by omega) _ (by omega)]
  have e : (c.toNat / 16 * 16 + c.toNat % 16).toUInt8 = c := by
    rw [show c.toNat / 16 * 16 + c.toNat % 16 = c.toNat by omega]
    simp
  rw [e]
theorem fh_tree {b : Array UInt8} {t : Tok} {P : Fin → Shared → Prop} (hz : b.size ≤ sizeLine) (h : P (.done (.ret (.bytes b s.toks))) { s with toks := s.toks + 1 }) :
    wpAny M A (Builtin.«bytes.fromhex» ⟨[.type "bytes", .str (hexStr b) t], []⟩) P E s := by
  unfold Builtin.«bytes.fromhex» Builtin.Bytes.fromhexM
  refine wpAny_bind (wpAny_of_eq (a := "bytes") (by first | rfl | kernel_rfl) ?_)
  refine KFB.if_not rfl ?_
  refine wpAny_bind (wpAny_of_eq (a := some (hexStr b)) rfl ?_)
  have hl : (hexStr b).cps.size = 2 * b.size := by
    show (hexCps b.toList).toArray.size = _
    rw [List.size_toArray, hexCps_length, Array.length_toList]
  have h1 : (hexStr b).cps.findIdx? (fun x => decide (x ≥ 128)) = none := by
    rw [Array.findIdx?_eq_none_iff]
    intro x hx
    have hx' : x ∈ hexCps b.toList := by simpa [hexStr] using hx
    have := hexCps_lt _ x hx'
    exact decide_eq_false (by omega)
  dsimp only
  rw [h1]
  dsimp only
  have h3 : (hexStr b).cps.toList = hexCps b.toList := by simp [hexStr]
  rw [h3, hl]
  have hn : b.toList.length ≤ 2 * b.size := by rw [Array.length_toList]; omega
  split
  · rename_i i heq
    have hk := (fh_walk (by intro n i o; cases n <;> rfl) (fh_two fun a ha b hb n i r o => by
      have h16 : ∀ k, k < 16 → k = 0 ∨ k = 1 ∨ k = 2 ∨ k = 3 ∨ k = 4 ∨ k = 5 ∨ k = 6 ∨ k = 7 ∨ k = 8 ∨ k = 9 ∨ k = 10 ∨ k = 11 ∨ k = 12 ∨ k = 13 ∨ k = 14 ∨ k = 15 := by omega
      rcases h16 a ha with rfl | rfl | rfl | rfl | rfl | rfl | rfl | rfl | rfl | rfl | rfl | rfl | rfl | rfl | rfl | rfl <;>
      rcases h16 b hb with rfl | rfl | rfl | rfl | rfl | rfl | rfl | rfl | rfl | rfl | rfl | rfl | rfl | rfl | rfl | rfl <;> rfl) b.toList _ 0 #[] hn).symm.trans heq
    cases hk
  · rename_i b' heq
    have hk := (fh_walk (by intro n i o; cases n <;> rfl) (fh_two fun a ha b hb n i r o => by
      have h16 : ∀ k, k < 16 → k = 0 ∨ k = 1 ∨ k = 2 ∨ k = 3 ∨ k = 4 ∨ k = 5 ∨ k = 6 ∨ k = 7 ∨ k = 8 ∨ k = 9 ∨ k = 10 ∨ k = 11 ∨ k = 12 ∨ k = 13 ∨ k = 14 ∨ k = 15 := by omega
      rcases h16 a ha with rfl | rfl | rfl | rfl | rfl | rfl | rfl | rfl | rfl | rfl | rfl | rfl | rfl | rfl | rfl | rfl <;>
      rcases h16 b hb with rfl | rfl | rfl | rfl | rfl | rfl | rfl | rfl | rfl | rfl | rfl | rfl | rfl | rfl | rfl | rfl <;> rfl) b.toList _ 0 #[] hn).symm.trans heq
    simp at hk
    subst hk
    refine KFB.if_so (by decide +kernel) ?_
    show wpAny M A (mkBytes b >>= fun v => ret v) P E s
    exact wpAny_bind (wpAny_mkBytes (wpAny_pure h) hz)
theorem fh_call {x : Addr} {b : Array UInt8} {t : Tok} {Q : Value → Shared → Prop} (N : News h₀ L s.heap news) (hm : (x, bdh) ∈ news) (hz : b.size ≤ sizeLine)
    (h : Q (.bytes b s.toks) { s with toks := s.toks + 1 }) : wpAny (model prog w) A (call (.ref x) [.str (hexStr b) t]) Q E s := by
  have ho : s.heap.get? x = some bdh := N.get hm
  refine wpAny_call (codeAny_of_tree ?_)
  show wpAny _ A.in1 (callAny (.ref x) ⟨[.str (hexStr b) t], []⟩) _ _ s
  simp only [callAny]
  refine wpAny_bind (wpAny_load ho ?_)
  have e1 : (Value.type "builtin_function_or_method" == Value.type "method" || Value.type "builtin_function_or_method" == Value.type "builtin_function_or_method" || Value.type "builtin_function_or_method" == Value.type "method-wrapper") = true := by decide
  simp only [bdh, e1, if_true]
  refine KFB.if_so (by decide) ?_
  refine wpAny_bind (wpAny_of_eq (a := ()) fh_check ?_)
  refine wpAny_bind (wpAny_pure (wpAny_pure ?_))
  exact ⟨fh_quiet, codeAny_builtin fh_entry (fh_tree hz h)⟩
end
end Mine
end

section
open PySem PySem.W PySem.Calls PyProof.Rows
set_option maxRecDepth 100000
set_option maxHeartbeats 8000000
namespace Mine
local macro_rules | `(tactic| k_room) => `(tactic| ktr_room)
def BBytes (news : Led) (b : Array UInt8) : BackT := fun h₀ L m s Q =>
  ∀ (t : Tok) (h' : Heap) (tk' : Nat), Fr h₀ L h' m → News h₀ L h' news → Q (.bytes b t) { s with heap := h', toks := tk' }
theorem key_ct (w : World) (mean : ExcName → Option Value) (mg mb : Str → Option Value) (news : Led) (v : Int) (t0 t1 : Tok) (x : Str) (hw0 : W v) :
    Ct w mean mg mb 80 3 news [.int v t0, .str x t1] (BInt news v) := by
  unfold Ct
  k_with_none
  k_fill
  intro dp un gd cn cs a ccd cl outer A₀ base h₀ L m s Q E B F X N T hk hd hu hret
  obtain ⟨hv0, hv1⟩ := hw0
  refine wpAny_call ?_
  k_dflt ktr_enter
  k_steps
  all_goals exact hret _ _ _ (by k_asm) (by first | k_asm | (refine' cb_drop ?cbN ?cbS; (case cbN => assumption); (case cbS => kcj_all)))
local macro_rules | `(tactic| walk_at "call type:bytes") => `(tactic| (
  k_here
  (with_reducible show wpAny _ _ (PySem.call (Value.type "bytes") [Value.bytes _ _] _) _ _ _)
  refine call_bytes_bytes ?_))
local macro_rules | `(tactic| walk_at "getMethod type:bytes") => `(tactic| (
  k_here
  k_dflt (refine' fh_getm ?fhF ?fhN ?fhX ?fhE ?_)
  (case fhF => k_asm)
  (case fhN => k_asm)
  (case fhX => k_asm)
  (case fhE => k_is)
  intro x' h' F' N' l1
  (try k_lt l1)))
local macro_rules | `(tactic| walk_at "callWith ref") => `(tactic| (
  k_here
  (with_reducible show wpAny _ _ (callWith _ (Value.ref _) _ (backTo _ (starEach (_ :: _) _)) []) _ _ _)
  (with_reducible rename (∀ p, p ∈ _ → _) => fhL)
  k_dflt (refine' fh_callWith ?_)))
local macro_rules | `(tactic| walk_at "And") => `(tactic| (
  (with_reducible show BoundAt _ _ ∧ _)
  k_dflt (refine ⟨fh_at (by k_asm) (by k_mem), ?_⟩)
  (try dsimp only [List.nil_append, List.cons_append])))
local macro_rules | `(tactic| walk_at "call ref") => `(tactic| (
  k_here
  (with_reducible show wpAny _ _ (PySem.call (Value.ref _) [Value.str (hexStr _) _] _) _ _ _)
  k_dflt (refine' fh_call ?fhN ?fhM ?fhZ ?_)
  (case fhN => k_asm)
  (case fhM => k_mem)
  (case fhZ => assumption)))
theorem oct_ct (w : World) (mean : ExcName → Option Value) (mg mb : Str → Option Value) (news : Led) (b : Array UInt8) (t0 : Tok) :
    Ct w mean mg mb 59 3 news [.bytes b t0] (BBytes news b) := by
  unfold Ct
  k_with_none
  k_fill
  intro dp un gd cn cs a ccd cl outer A₀ base h₀ L m s Q E B F X N T hk hd hu hret
  refine wpAny_call ?_
  k_dflt (refine' code_def ?k1 ?k2 ?k3 ?k4 ?k5 ?kA ?kF ?kK ?k6 ?k7 ?k8 ?k9 ?kB ?_ ?c2 ?c3 ?c4 ?c5; (case kA => exact rfl); (case kF => exact rfl); (case kK => assumption); (case k1 => k_asm); (case k2 => k_asm); (case k3 => k_asm); (case k4 => k_asm); (case k5 => k_asm); (case k6 => k_is); (case k7 => k_is); (case k8 => ktr_room); (case k9 => exact binds_K (by k_in) rfl (by k_is) rfl rfl rfl); (case c5 => decide); (case kB => exact locs rfl); (case c2 => exact rfl); (case c3 => exact rfl); (case c4 => exact rfl); k_whole; intro g' L' h' FG' F' N' B' X' T'; (try dsimp only); (try k_fold))
  k_steps
  all_goals exact hret _ _ _ (by k_asm) (by first | k_asm | (refine' cb_drop ?cbN ?cbS; (case cbN => assumption); (case cbS => kcj_all)))
theorem octs_ct (w : World) (mean : ExcName → Option Value) (mg mb : Str → Option Value) (news : Led) (b : Array UInt8) (t0 : Tok) (hz : b.size ≤ sizeLine) :
    Ct w mean mg mb 59 3 news [.str (hexStr b) t0] (BBytes news b) := by
  unfold Ct
  k_with_none
  k_fill
  intro dp un gd cn cs a ccd cl outer A₀ base h₀ L m s Q E B F X N T hk hd hu hret
  refine wpAny_call ?_
  k_dflt (refine' code_def ?k1 ?k2 ?k3 ?k4 ?k5 ?kA ?kF ?kK ?k6 ?k7 ?k8 ?k9 ?kB ?_ ?c2 ?c3 ?c4 ?c5; (case kA => exact rfl); (case kF => exact rfl); (case kK => assumption); (case k1 => k_asm); (case k2 => k_asm); (case k3 => k_asm); (case k4 => k_asm); (case k5 => k_asm); (case k6 => k_is); (case k7 => k_is); (case k8 => ktr_room); (case k9 => exact binds_K (by k_in) rfl (by k_is) rfl rfl rfl); (case c5 => decide); (case kB => exact locs rfl); (case c2 => exact rfl); (case c3 => exact rfl); (case c4 => exact rfl); k_whole; intro g' L' h' FG' F' N' B' X' T'; (try dsimp only); (try k_fold))
  k_steps
  all_goals exact hret _ _ _ (by k_asm) (by first | k_asm | (refine' cb_drop ?cbN ?cbS; (case cbN => assumption); (case cbS => kcj_all)))
end Mine
end

section
open PySem PySem.W PySem.Calls PyProof.Rows
set_option maxRecDepth 100000
set_option maxHeartbeats 8000000
namespace Mine
abbrev S6 := Int × Int × Int × Int × Int × Int
def sinit (k0 k1 : Int) : S6 := (Builtin.bitXor 8317987319222330741 k0, Builtin.bitXor 7237128888997146477 k1, Builtin.bitXor 7816392313619706465 k0, Builtin.bitXor 8387220255154660723 k1, 0, 0)
def sstep (st : S6) (n : Int) : S6 :=
  let p := Builtin.bitOr st.2.2.2.2.2 (n * 2 ^ (8 * st.2.2.2.2.1.fmod 8).toNat)
  let c := Builtin.bitAnd (st.2.2.2.2.1 + 1) 255
  if Builtin.bitAnd c 7 = 0 then
    let r := sround st.1 st.2.1 st.2.2.1 (Builtin.bitXor st.2.2.2.1 p)
    let r := sround r.1 r.2.1 r.2.2.1 r.2.2.2
    (Builtin.bitXor r.1 p, r.2.1, r.2.2.1, r.2.2.2, c, 0)
  else (st.1, st.2.1, st.2.2.1, st.2.2.2.1, c, p)
theorem W.or {x y : Int} (hx : W x) (hy : W y) : W (Builtin.bitOr x y) := by
  have h1 := W.xor hx hy
  have h2 := bitAnd_range x hy.1
  have h3 : Builtin.bitOr x y = Builtin.bitXor x y + Builtin.bitAnd x y := by rw [bitXor_and, bitOr_and]; omega
  refine ⟨by rw [h3]; have := h1.1; omega, ?_⟩
  have h4 : Builtin.bitOr x y = ((x.toNat ||| y.toNat : Nat) : Int) := by
    rw [bitOr_and, bitAnd_pp hx.1 hy.1]
    have := or_and_nat x.toNat y.toNat
    have := hx.1; have := hy.1
    omega
  rw [h4]
  have h : x.toNat ||| y.toNat < 2 ^ 64 := Nat.or_lt_two_pow (by have := hx.2; have := hx.1; omega) (by have := hy.2; have := hy.1; omega)
  omega
theorem pow_le_56 {k : Nat} (h : k ≤ 56) : (2 : Int) ^ k ≤ 2 ^ 56 := by
  have h1 : 2 ^ k ≤ 2 ^ 56 := Nat.pow_le_pow_right (by decide) h
  have h2 := kbt_cast k
  have h3 := kbt_cast 56
  omega
theorem W.shl {n : Int} (k : Nat) (h0 : 0 ≤ n) (h1 : n < 256) (hk : k ≤ 56) : W (n * 2 ^ k) := by
  have h2 := pow_le_56 hk
  have h3 := kbt_pos k
  refine ⟨Int.mul_nonneg h0 (Int.le_of_lt h3), ?_⟩
  have h4 : n * 2 ^ k ≤ 255 * 2 ^ k := Int.mul_le_mul_of_nonneg_right (by omega) (Int.le_of_lt h3)
  have h5 : (255 : Int) * 2 ^ k ≤ 255 * 2 ^ 56 := Int.mul_le_mul_of_nonneg_left h2 (by decide)
  have h6 : (255 : Int) * 2 ^ 56 < 18446744073709551616 := by decide
  omega
theorem W.pend {p n : Int} (c : Int) (hp : W p) (h0 : 0 ≤ n) (h1 : n < 256) : W (Builtin.bitOr p (n * 2 ^ (8 * c.fmod 8).toNat)) := by
  have h2 := fmod_lo c (n := 8) (by decide)
  have h3 := fmod_hi c (n := 8) (by decide)
  exact W.or hp (W.shl _ h0 h1 (by omega))
theorem W.last {p n : Int} (hp : W p) (h0 : 0 ≤ n) (h1 : n < 256) : W (Builtin.bitOr p (n * 2 ^ Int.toNat 56)) := W.or hp (W.shl _ h0 h1 (by decide))
theorem count_in (x : Int) : 0 ≤ Builtin.bitAnd x 255 ∧ Builtin.bitAnd x 255 < 256 := by
  have h := bitAnd_range x (y := 255) (by decide)
  exact ⟨h.1, by omega⟩
def sipSum (k0 k1 : Int) (ks : List Int) : Int :=
  let st := ks.foldl sstep (sinit k0 k1)
  let p := Builtin.bitOr st.2.2.2.2.2 (st.2.2.2.2.1 * 2 ^ Int.toNat 56)
  let r := sround st.1 st.2.1 st.2.2.1 (Builtin.bitXor st.2.2.2.1 p)
  let r := sround r.1 r.2.1 r.2.2.1 r.2.2.2
  let r := sround (Builtin.bitXor r.1 p) r.2.1 (Builtin.bitXor r.2.2.1 255) r.2.2.2
  let r := sround r.1 r.2.1 r.2.2.1 r.2.2.2
  let r := sround r.1 r.2.1 r.2.2.1 r.2.2.2
  let r := sround r.1 r.2.1 r.2.2.1 r.2.2.2
  Builtin.bitXor (Builtin.bitXor (Builtin.bitXor r.1 r.2.1) r.2.2.1) r.2.2.2
def SF (k0 k1 : Int) (pre : List Int) (st : S6) : Prop := pre.foldl sstep (sinit k0 k1) = st
theorem SF.init {k0 k1 : Int} : SF k0 k1 [] (Builtin.bitXor 8317987319222330741 k0, Builtin.bitXor 7237128888997146477 k1, Builtin.bitXor 7816392313619706465 k0, Builtin.bitXor 8387220255154660723 k1, 0, 0) := rfl
theorem SF.next {k0 k1 : Int} {pre : List Int} {st : S6} (h : SF k0 k1 pre st) (n : Int) : SF k0 k1 (pre ++ [n]) (sstep st n) := by
  unfold SF at h ⊢
  rw [List.foldl_append, h]
  rfl
theorem SF.keep {k0 k1 : Int} {pre : List Int} {v0 v1 v2 v3 c p n : Int} (h : SF k0 k1 pre (v0, v1, v2, v3, c, p)) (hc : Builtin.bitAnd (Builtin.bitAnd (c + 1) 255) 7 ≠ 0) :
    SF k0 k1 (pre ++ [n]) (v0, v1, v2, v3, Builtin.bitAnd (c + 1) 255, Builtin.bitOr p (n * 2 ^ (8 * c.fmod 8).toNat)) := by
  have h1 := h.next n
  unfold sstep at h1
  simp only [if_neg hc] at h1
  exact h1
theorem SF.turn {k0 k1 : Int} {pre : List Int} {v0 v1 v2 v3 c p n a0 a1 a2 a3 b0 b1 b2 b3 : Int} (h : SF k0 k1 pre (v0, v1, v2, v3, c, p)) (hc : Builtin.bitAnd (Builtin.bitAnd (c + 1) 255) 7 = 0)
    (e2 : sround a0 a1 a2 a3 = (b0, b1, b2, b3)) (e1 : sround v0 v1 v2 (Builtin.bitXor v3 (Builtin.bitOr p (n * 2 ^ (8 * c.fmod 8).toNat))) = (a0, a1, a2, a3)) :
    SF k0 k1 (pre ++ [n]) (Builtin.bitXor b0 (Builtin.bitOr p (n * 2 ^ (8 * c.fmod 8).toNat)), b1, b2, b3, Builtin.bitAnd (c + 1) 255, 0) := by
  have h1 := h.next n
  unfold sstep at h1
  simp only [if_pos hc, e1, e2] at h1
  exact h1
theorem unr_off {I r1 r2 : Nat} {news : Led} (h : r1 < I ∧ r2 < I ∧ AllLt I news) : ∀ p ∈ news, p.1 ≠ I := fun p hp e => by
  have h1 := ktn_ltOf h.2.2 p hp
  rw [e] at h1
  exact absurd h1 (Nat.lt_irrefl _)
theorem sip_end {k0 k1 : Int} {ks : List Int} {v0 v1 v2 v3 c p a0 a1 a2 a3 b0 b1 b2 b3 c0 c1 c2 c3 d0 d1 d2 d3 e0 e1 e2 e3 f0 f1 f2 f3 : Int}
    (h6 : sround e0 e1 e2 e3 = (f0, f1, f2, f3)) (h5 : sround d0 d1 d2 d3 = (e0, e1, e2, e3)) (h4 : sround c0 c1 c2 c3 = (d0, d1, d2, d3))
    (h3 : sround (Builtin.bitXor b0 (Builtin.bitOr p (c * 2 ^ Int.toNat 56))) b1 (Builtin.bitXor b2 255) b3 = (c0, c1, c2, c3)) (h2 : sround a0 a1 a2 a3 = (b0, b1, b2, b3))
    (h1 : sround v0 v1 v2 (Builtin.bitXor v3 (Builtin.bitOr p (c * 2 ^ Int.toNat 56))) = (a0, a1, a2, a3)) (h : SF k0 k1 ks (v0, v1, v2, v3, c, p)) :
    Builtin.bitXor (Builtin.bitXor (Builtin.bitXor f0 f1) f2) f3 = sipSum k0 k1 ks := by
  unfold sipSum
  rw [show ks.foldl sstep (sinit k0 k1) = _ from h]
  simp only [h1, h2, h3, h4, h5, h6]
local macro_rules | `(tactic| walk_at "call ref") => `(tactic| (
  k_here
  (with_reducible show wpAny _ _ (PySem.call (Value.ref 94) _ _) _ _ _)
  k_dflt (refine' Ct.use (round_ct _ _ _ _ _ _ _ _ _ _ _ _ _ ?h1 ?h2 ?h3 ?h4) ?k1 ?k2 ?k3 ?k4 ?k5 ?kK ?kd ?ku ?_)
  (case k1 => k_asm)
  (case k2 => k_asm)
  (case k3 => k_asm)
  (case k4 => k_asm)
  (case k5 => k_asm)
  (case kK => first | exact rfl | assumption)
  (case kd => ktr_room)
  (case ku => ktr_units)
  (case h1 => repeat (with_reducible first | assumption | exact W.and _ | exact W.rotl _ _ | refine W.xor ?_ ?_ | exact W.pend _ (by assumption) (by assumption) (by assumption) | exact W.last (by assumption) (by assumption) (by assumption) | exact W.lit))
  (case h2 => repeat (with_reducible first | assumption | exact W.and _ | exact W.rotl _ _ | refine W.xor ?_ ?_ | exact W.pend _ (by assumption) (by assumption) (by assumption) | exact W.last (by assumption) (by assumption) (by assumption) | exact W.lit))
  (case h3 => repeat (with_reducible first | assumption | exact W.and _ | exact W.rotl _ _ | refine W.xor ?_ ?_ | exact W.pend _ (by assumption) (by assumption) (by assumption) | exact W.last (by assumption) (by assumption) (by assumption) | exact W.lit))
  (case h4 => repeat (with_reducible first | assumption | exact W.and _ | exact W.rotl _ _ | refine W.xor ?_ ?_ | exact W.pend _ (by assumption) (by assumption) (by assumption) | exact W.last (by assumption) (by assumption) (by assumption) | exact W.lit))
  k_dflt (intro v0' v1' v2' v3' t0' t1' t2' t3' r9 h9 tk9 eR W0' W1' W2' W3' F9 N9 l9)
  (try k_lt l9)
  (try dsimp only)
  (try k_fold)))
local macro_rules | `(tactic| walk_at "call ref") => `(tactic| (
  k_here
  (with_reducible show wpAny _ _ (PySem.call (Value.ref 80) _ _) _ _ _)
  k_dflt (refine' Ct.use (key_ct _ _ _ _ _ _ _ _ _ ?h1) ?k1 ?k2 ?k3 ?k4 ?k5 ?kK ?kd ?ku ?_)
  (case k1 => k_asm)
  (case k2 => k_asm)
  (case k3 => k_asm)
  (case k4 => k_asm)
  (case k5 => k_asm)
  (case kK => first | exact rfl | assumption)
  (case kd => ktr_room)
  (case ku => ktr_units)
  (case h1 => repeat (with_reducible first | assumption | exact W.and _ | exact W.rotl _ _ | refine W.xor ?_ ?_ | exact W.pend _ (by assumption) (by assumption) (by assumption) | exact W.last (by assumption) (by assumption) (by assumption) | exact W.lit))
  k_dflt (intro t9 h9 tk9 F9 N9)
  (try dsimp only)
  (try k_fold)))
def Gives (w : World) (mean : ExcName → Option Value) (mg mb : Str → Option Value) (v : Value) (b : Array UInt8) : Prop := ∀ news, Ct w mean mg mb 59 3 news [v] (BBytes news b)
theorem Gives.use {w : World} {mean : ExcName → Option Value} {mg mb : Str → Option Value} {v : Value} {b : Array UInt8} (h : Gives w mean mg mb v b) (news : Led) : Ct w mean mg mb 59 3 news [v] (BBytes news b) := h news
local macro_rules | `(tactic| walk_at "call ref") => `(tactic| (
  k_here
  (with_reducible show wpAny _ _ (PySem.call (Value.ref 59) _ _) _ _ _)
  k_dflt (refine' Ct.use (Gives.use ?h1 _) ?k1 ?k2 ?k3 ?k4 ?k5 ?kK ?kd ?ku ?_)
  (case k1 => k_asm)
  (case k2 => k_asm)
  (case k3 => k_asm)
  (case k4 => k_asm)
  (case k5 => k_asm)
  (case kK => first | exact rfl | assumption)
  (case kd => ktr_room)
  (case ku => ktr_units)
  (case h1 => assumption)
  k_dflt (intro t9 h9 tk9 F9 N9)
  (try dsimp only)
  (try k_fold)))

theorem sip_ct (w : World) (mean : ExcName → Option Value) (mg mb : Str → Option Value) (news : Led) (k0 k1 : Int) (t0 t1 : Tok) (v : Value) (b : Array UInt8) (hv : Gives w mean mg mb v b) (hk0 : W k0) (hk1 : W k1) :
    Ct w mean mg mb 101 4 news [.int k0 t0, .int k1 t1, v] (BInt news (sipSum k0 k1 (KBw.bInts b))) := by
  unfold Ct
  k_with_none
  k_fill
  intro dp un gd cn cs a ccd cl outer A₀ base h₀ L m s Q E B F X N T hk hd hu hret
  refine wpAny_call ?_
  k_dflt ktr_enter
  k_with "UnrEnd" => (refine UnrEnd.intro (by k_asm) (by assumption) news (by kcj_all) (unr_off (by assumption)) ?_)
  k_with "state" => with_reducible first
    | (refine ⟨SF.init, W.xor W.lit (by assumption), W.xor W.lit (by assumption), W.xor W.lit (by assumption), W.xor W.lit (by assumption), W.lit, ?_, ?_⟩ <;> with_unfolding_all decide)
    | (refine ⟨SF.keep (by assumption) (by assumption), by assumption, by assumption, by assumption, by assumption, W.pend _ (by assumption) (by assumption) (by assumption), (count_in _).1, (count_in _).2⟩)
    | (refine ⟨SF.turn (by assumption) (by assumption) (by assumption) (by assumption), W.xor (by assumption) (W.pend _ (by assumption) (by assumption) (by assumption)), by assumption, by assumption, by assumption, W.lit, (count_in _).1, (count_in _).2⟩)
  k_with "pyIter bytes" => k_state (fun pre v0 v1 v2 v3 count pending => SF k0 k1 pre (v0, v1, v2, v3, count, pending) ∧ W v0 ∧ W v1 ∧ W v2 ∧ W v3 ∧ W pending ∧ 0 ≤ count ∧ count < 256) "v0" "v1" "v2" "v3" "count" "pending"
  k_steps
  all_goals (
    refine cb_retI hret ?e (by k_asm) (by first | k_asm | (refine' cb_drop ?cbN ?cbS; (case cbN => assumption); (case cbS => kcj_all)))
    show _ = sipSum k0 k1 (List.map (fun c => (c.toNat : Int)) b.toList)
    with_reducible exact sip_end (by assumption) (by assumption) (by assumption) (by assumption) (by assumption) (by assumption) (by assumption))
end Mine
end

section
open PySem PySem.W PySem.Calls PyProof.Rows
set_option maxRecDepth 100000
set_option maxHeartbeats 8000000
namespace Mine
theorem rot_nat (N k : Nat) (hN : N < 2 ^ 64) (hk : k ≤ 64) : ((N * 2 ^ k) ||| (N / 2 ^ (64 - k))) % 2 ^ 64 = (N * 2 ^ k) % 2 ^ 64 + (N * 2 ^ k) / 2 ^ 64 := by
  have e : 2 ^ (64 - k) * 2 ^ k = 2 ^ 64 := by rw [← Nat.pow_add]; congr 1; omega
  have p1 : 0 < 2 ^ k := Nat.two_pow_pos k
  have p2 : 0 < 2 ^ (64 - k) := Nat.two_pow_pos _
  generalize 2 ^ (64 - k) = B at e p2 ⊢
  have hq : N / B < 2 ^ k := Nat.div_lt_of_lt_mul (by rw [e]; exact hN)
  have ho : N * 2 ^ k ||| N / B = N * 2 ^ k + N / B := by
    have h := Nat.shiftLeft_add_eq_or_of_lt hq N
    rw [Nat.shiftLeft_eq] at h
    exact h.symm
  have hd : N * 2 ^ k / 2 ^ 64 = N / B := by rw [← e, Nat.mul_div_mul_right _ _ p1]
  have hm : N * 2 ^ k % 2 ^ 64 = N % B * 2 ^ k := by rw [← e, Nat.mul_mod_mul_right]
  have hr : N % B < B := Nat.mod_lt _ p2
  have h1 : N % B * 2 ^ k + 2 ^ k ≤ 2 ^ 64 := by
    have h2 : (N % B + 1) * 2 ^ k ≤ B * 2 ^ k := Nat.mul_le_mul_right _ hr
    rw [e, Nat.add_mul, Nat.one_mul] at h2
    exact h2
  have hw : N * 2 ^ k = 2 ^ 64 * (N / B) + N % B * 2 ^ k := by
    have h3 := Nat.div_add_mod (N * 2 ^ k) (2 ^ 64)
    rw [hd, hm] at h3
    exact h3.symm
  rw [ho, hd, hm, hw, Nat.add_assoc, Nat.mul_add_mod]
  exact Nat.mod_eq_of_lt (by omega)
theorem rot_cast {n : Int} (h0 : 0 ≤ n) (k : Nat) : n * 2 ^ k = ((n.toNat * 2 ^ k : Nat) : Int) := by
  rw [Int.natCast_mul, kbt_cast, Int.toNat_of_nonneg h0]
theorem rot_eq {n b : Int} (hn : W n) (b0 : 0 ≤ b) (b1 : b ≤ 64) : (n * 2 ^ b.toNat).fmod (2 ^ Int.toNat 64) + (n * 2 ^ b.toNat).fdiv (2 ^ Int.toNat 64) = rotl n b := by
  obtain ⟨h0, h1⟩ := hn
  have hk : b.toNat ≤ 64 := by omega
  have hb : (64 - b).toNat = 64 - b.toNat := by omega
  have h := rot_nat n.toNat b.toNat (by omega) hk
  unfold rotl
  rw [hb, show (18446744073709551615 : Int) = 2 ^ 64 - 1 by decide, kbt_maskF]
  rw [Int.fdiv_eq_ediv_of_nonneg n (Int.le_of_lt (kbt_pos _)), rot_cast h0, ← kbt_cast (64 - b.toNat)]
  have e1 : n / ((2 ^ (64 - b.toNat) : Nat) : Int) = ((n.toNat / 2 ^ (64 - b.toNat) : Nat) : Int) := by
    rw [Int.natCast_ediv, Int.toNat_of_nonneg h0]
  rw [e1]
  have e2 : Builtin.bitOr ((n.toNat * 2 ^ b.toNat : Nat) : Int) ((n.toNat / 2 ^ (64 - b.toNat) : Nat) : Int) = ((n.toNat * 2 ^ b.toNat ||| n.toNat / 2 ^ (64 - b.toNat) : Nat) : Int) := by
    rw [bitOr_and, bitAnd_pp (Int.natCast_nonneg _) (Int.natCast_nonneg _), Int.toNat_natCast, Int.toNat_natCast]
    have := or_and_nat (n.toNat * 2 ^ b.toNat) (n.toNat / 2 ^ (64 - b.toNat))
    omega
  rw [e2]
  generalize n.toNat * 2 ^ b.toNat ||| n.toNat / 2 ^ (64 - b.toNat) = X at h ⊢
  generalize n.toNat * 2 ^ b.toNat = Y at h ⊢
  have p : (0 : Int) ≤ 2 ^ 64 := by decide
  rw [show Int.toNat 64 = 64 from rfl, Int.fmod_eq_emod_of_nonneg _ p, Int.fmod_eq_emod_of_nonneg _ p, Int.fdiv_eq_ediv_of_nonneg _ p]
  omega
end Mine
end

section
open PySem PySem.W PySem.Calls PyProof.Rows PyProof.V PySem.Spec
set_option maxRecDepth 100000
set_option maxHeartbeats 8000000
namespace Mine
def byteAt (F : Array UInt8) (j : Nat) : Int := (KBw.bInts F).getD j 0
theorem byteAt_in (F : Array UInt8) (j : Nat) : 0 ≤ byteAt F j ∧ byteAt F j < 256 := KBw.getD_in fun _ hk => KBw.ints_in hk
def lword (F : Array UInt8) (i : Nat) : Int :=
  byteAt F (8 * i) + byteAt F (8 * i + 1) * 256 + byteAt F (8 * i + 2) * 65536 + byteAt F (8 * i + 3) * 16777216 + byteAt F (8 * i + 4) * 4294967296 +
    byteAt F (8 * i + 5) * 1099511627776 + byteAt F (8 * i + 6) * 281474976710656 + byteAt F (8 * i + 7) * 72057594037927936
theorem lword_in (F : Array UInt8) (i : Nat) : W (lword F i) := by
  unfold lword W
  have h0 := byteAt_in F (8 * i)
  have h1 := byteAt_in F (8 * i + 1)
  have h2 := byteAt_in F (8 * i + 2)
  have h3 := byteAt_in F (8 * i + 3)
  have h4 := byteAt_in F (8 * i + 4)
  have h5 := byteAt_in F (8 * i + 5)
  have h6 := byteAt_in F (8 * i + 6)
  have h7 := byteAt_in F (8 * i + 7)
  omega
theorem lword_W {F : Array UInt8} {i : Nat} {wd : Int}
    (h : (List.map (fun k' : Int => if 0 ≤ (KBw.bInts F).getD (0 + (i : Int) * 8 + k').toNat 0 ∧ (KBw.bInts F).getD (0 + (i : Int) * 8 + k').toNat 0 < 256 then (KBw.bInts F).getD (0 + (i : Int) * 8 + k').toNat 0 * 256 ^ k'.toNat else k') (rangeKs 0 (8 - 0 : Int).toNat)).sum = wd) :
    lword F i = wd ∧ W wd := by
  have e : ∀ k : Nat, (0 + (i : Int) * 8 + (k : Int)).toNat = 8 * i + k := by intro k; omega
  have f : ∀ k : Nat, (if 0 ≤ (KBw.bInts F).getD (0 + (i : Int) * 8 + (k : Int)).toNat 0 ∧ (KBw.bInts F).getD (0 + (i : Int) * 8 + (k : Int)).toNat 0 < 256 then (KBw.bInts F).getD (0 + (i : Int) * 8 + (k : Int)).toNat 0 * 256 ^ (k : Int).toNat else (k : Int)) = byteAt F (8 * i + k) * 256 ^ k := by
    intro k
    have hb : 0 ≤ (KBw.bInts F).getD (8 * i + k) 0 ∧ (KBw.bInts F).getD (8 * i + k) 0 < 256 := byteAt_in F (8 * i + k)
    rw [e k, if_pos hb]
    rfl
  have g : rangeKs 0 (8 - 0 : Int).toNat = [((0 : Nat) : Int), ((1 : Nat) : Int), ((2 : Nat) : Int), ((3 : Nat) : Int), ((4 : Nat) : Int), ((5 : Nat) : Int), ((6 : Nat) : Int), ((7 : Nat) : Int)] := by decide
  have hl : lword F i = wd := by
    rw [g] at h
    simp only [List.map_cons, List.map_nil, f, List.sum_cons, List.sum_nil] at h
    unfold lword
    simp at h
    omega
  exact ⟨hl, hl ▸ lword_in F i⟩
theorem store_word {M : Model} {A : Around} {E : Value → Shared → Prop} {s : Shared} {env : Env} {x : PySem.Str} {t : Tok} {Q : Unit → Shared → Prop} {F : Array UInt8} {i : Nat}
    (h : ∀ wd, lword F i = wd → W wd → wpAny M A (storeName env x (.int wd t)) Q E s) :
    wpAny M A (storeName env x (.int (List.map (fun k' : Int => if 0 ≤ (KBw.bInts F).getD (0 + (i : Int) * 8 + k').toNat 0 ∧ (KBw.bInts F).getD (0 + (i : Int) * 8 + k').toNat 0 < 256 then (KBw.bInts F).getD (0 + (i : Int) * 8 + k').toNat 0 * 256 ^ k'.toNat else k') (rangeKs 0 (8 - 0 : Int).toNat)).sum t)) Q E s :=
  h _ (lword_W rfl).1 (lword_W rfl).2
end Mine
end

section
open PySem PySem.W PySem.Calls PyProof.Rows
set_option maxRecDepth 100000
set_option maxHeartbeats 8000000
namespace Mine
theorem turned_ct (w : World) (mean : ExcName → Option Value) (mg mb : Str → Option Value) (news : Led) (n b : Int) (tn tb : Tok) (hw : W n) (b0 : 0 ≤ b) (b1 : b ≤ 64) :
    Ct w mean mg mb 108 1 news [.int n tn, .int b tb] (BInt news (rotl n b)) := by
  unfold Ct
  k_with_none
  k_fill
  intro dp un gd cn cs a ccd cl outer A₀ base h₀ L m s Q E B F X N T hk hd hu hret
  have hw' := hw
  obtain ⟨h0, h1⟩ := hw
  refine wpAny_call ?_
  k_dflt ktr_enter
  k_steps
  all_goals (
    refine cb_retI hret ?e (by k_asm) (by k_asm)
    exact rot_eq hw' b0 b1)
def lround (a b c d : Int) : Int × Int × Int × Int :=
  let a := (a + b).fmod (2 ^ Int.toNat 64)
  let c := (c + d).fmod (2 ^ Int.toNat 64)
  let b := Builtin.bitXor (rotl b 13) a
  let d := Builtin.bitXor (rotl d 16) c
  let a := rotl a 32
  let c := (c + b).fmod (2 ^ Int.toNat 64)
  let a := (a + d).fmod (2 ^ Int.toNat 64)
  let b := Builtin.bitXor (rotl b 17) c
  let d := Builtin.bitXor (rotl d 21) a
  (a, b, rotl c 32, d)
theorem W.fmod (x : Int) : W (x.fmod (2 ^ Int.toNat 64)) := by
  have h := kbt_rest x 64
  exact ⟨h.1, h.2⟩
theorem fmod_mask (x : Int) : x.fmod (2 ^ Int.toNat 64) = Builtin.bitAnd x 18446744073709551615 := (kbt_maskF x 64).symm
theorem lround_eq (a b c d : Int) : sround a b c d = lround a b c d := by
  unfold sround lround
  simp only [fmod_mask]
def BLRound (news : Led) (v0 v1 v2 v3 : Int) : BackT := fun h₀ L m s Q =>
  ∀ (a b c d : Int) (t0 t1 t2 t3 : Tok) (r : Addr) (h' : Heap) (tk' : Nat), sround v0 v1 v2 v3 = (a, b, c, d) → W a → W b → W c → W d → Fr h₀ L h' m →
    News h₀ L h' ((r, listOf #[.int a t0, .int b t1, .int c t2, .int d t3] 0) :: news) → (∀ p ∈ news, p.1 < r) → Q (.ref r) { s with heap := h', toks := tk' }
local macro_rules | `(tactic| walk_at "call ref") => `(tactic| (
  k_here
  (with_reducible show wpAny _ _ (PySem.call (Value.ref 108) _ _) _ _ _)
  k_dflt (refine' Ct.use (turned_ct _ _ _ _ _ _ _ _ _ ?h1 ?h2 ?h3) ?k1 ?k2 ?k3 ?k4 ?k5 ?kK ?kd ?ku ?_)
  (case k1 => k_asm)
  (case k2 => k_asm)
  (case k3 => k_asm)
  (case k4 => k_asm)
  (case k5 => k_asm)
  (case kK => first | exact rfl | assumption)
  (case kd => ktr_room)
  (case ku => ktr_units)
  (case h1 => repeat (with_reducible first | assumption | exact W.fmod _ | exact W.rotl _ _ | refine W.xor ?_ ?_ | exact W.lit))
  (case h2 => decide)
  (case h3 => decide)
  k_dflt (intro t9 h9 tk9 F9 N9)
  (try dsimp only)
  (try k_fold)))

theorem lround_ct (w : World) (mean : ExcName → Option Value) (mg mb : Str → Option Value) (news : Led) (l : Addr) (nn : Nat) (v0 v1 v2 v3 : Int) (t0 t1 t2 t3 : Tok)
    (hm : (l, listOf #[.int v0 t0, .int v1 t1, .int v2 t2, .int v3 t3] nn) ∈ news) (hw0 : W v0) (hw1 : W v1) (hw2 : W v2) (hw3 : W v3) :
    Ct w mean mg mb 115 2 news [.ref l] (BLRound news v0 v1 v2 v3) := by
  unfold Ct
  k_with_none
  k_fill
  intro dp un gd cn cs a ccd cl outer A₀ base h₀ L m s Q E B F X N₀ T hk hd hu hret
  have N : News h₀ L s.heap ((l, listOf #[.int v0 t0, .int v1 t1, .int v2 t2, .int v3 t3] nn) :: news) := fun p hp => by
    rcases List.mem_cons.mp hp with rfl | hp
    · exact N₀ _ hm
    · exact N₀ _ hp
  clear N₀
  refine wpAny_call ?_
  k_dflt ktr_enter
  k_steps
  all_goals (
    refine hret _ _ _ _ _ _ _ _ _ _ _ (lround_eq _ _ _ _) ?_ ?_ ?_ ?_ (by k_asm) (cb_drop ‹_› (by kcj_all)) (ktn_ltOf (And.right ‹_ ∧ AllLt _ news›))
    all_goals repeat (with_reducible first | assumption | exact W.fmod _ | exact W.rotl _ _ | refine W.xor ?_ ?_ | exact W.lit))
end Mine
end

section
open PySem PySem.W PySem.Calls PyProof.Rows
set_option maxRecDepth 100000
set_option maxHeartbeats 8000000
namespace Mine
/-! bytes(n) for a small int n -/
theorem bi_bytes : typeLookup (.type "int") "__bytes__" = pure none := by rw [typeLookup_type, builtinLookup_eq_fast]; kernel_rfl
theorem bi_index : typeLookup (.type "int") "__index__" = pure (some (.builtin "int.__index__")) := by rw [typeLookup_type, builtinLookup_eq_fast]; kernel_rfl
section
variable {prog : Program} {w : World} {A : Around} {E : Value → Shared → Prop} {s : Shared}
theorem bi_new {n : Int} {t : Tok} {Q : Value → Shared → Prop} (h0 : 0 ≤ n) (h1 : n < 4096) (hQ : Q (.bytes (Array.replicate n.toNat 0) s.toks) { s with toks := s.toks + 1 }) :
    codeAny (model prog w) A (.call (.builtin "bytes.__new__") ⟨[.type "bytes", .int n t], []⟩) (wants Q E) s := by
  refine codeAny_of_tree ?_
  show wpAny _ A.in1 (do checkBuiltinCall "bytes.__new__" ⟨[.type "bytes", .int n t], []⟩; again (.builtin "bytes.__new__" ⟨[.type "bytes", .int n t], []⟩)) _ _ s
  refine wpAny_bind (wpAny_of_eq (F.bm_newCall _) (wpAny_pure ⟨plainId_quiet F.bm_plain _, codeAny_builtin F.bm_entry ?_⟩))
  rw [Around.under_plainId F.bm_plain _]
  have hT : s.TypeIs (.int n t) "int" := by first | exact typeIs_int _ _ _ | exact Looks.of_pure rfl
  unfold Builtin.«bytes.__new__»
  refine wpAny_bind (wpAny_of_eq (a := true) rfl ?_)
  refine bm_if_false rfl ?_
  refine wpAny_bind (wpAny_of_eq F.bm_sub ?_)
  refine bm_if_false rfl ?_
  refine wpAny_bind (wpAny_of_eq (F.bm_bind _) ?_)
  refine wpAny_bind (wpAny_of_eq (a := ()) rfl ?_)
  refine wpAny_bind (wpAny_of_eq (a := ()) rfl ?_)
  refine bm_if_false rfl ?_
  refine wpAny_bind (wpAny_specialOf hT bi_bytes ?_)
  refine wpAny_bind (wpAny_of_eq (a := false) rfl ?_)
  refine bm_if_false rfl ?_
  refine wpAny_bind (wpAny_specialOf hT bi_index ?_)
  refine bm_if_false rfl ?_
  refine wpAny_bind (wpAny_of_eq (a := .ok n) rfl ?_)
  dsimp only
  refine bm_if_false (by simp [Builtin.Bytes.fitsIndex]; omega) ?_
  rw [if_neg (by omega), if_neg (by omega)]
  refine bm_if_false (by unfold Builtin.Bytes.tooLong; first | (have : sizeLine = 16777216 := rfl; simp; omega) | simp) ?_
  refine wpAny_bind (wpAny_rule ?_)
  refine wpAny_bind (wpAny_mkBytes ?_ (by rw [Array.size_replicate, sizeLine_eq]; omega))
  refine wpAny_of_eq (a := Fin.done (.ret (.bytes (Array.replicate n.toNat 0) s.toks))) (by first | rfl | kernel_rfl) ?_
  exact hQ
theorem call_bytes_int {n : Int} {t : Tok} {Q : Value → Shared → Prop} (h0 : 0 ≤ n) (h1 : n < 4096) (hQ : ∀ t' k, Q (.bytes (Array.replicate n.toNat 0) t') { s with toks := k }) : wpAny (model prog w) A (call (.type "bytes") [.int n t]) Q E s := by
  refine callType_codes (Q₁ := fun obj s₁ => s₁.TypeIs obj "bytes" ∧ Q obj s₁) F.bm_called (F.bm_typeCall _) F.entry_object_init
    (bi_new h0 h1 ⟨PySem.W.typeIs_bytes _ _ _, hQ _ _⟩) fun obj s₁ h₁ => ?_
  exact ⟨h₁.1, F.args_object_init_2 obj _, object_init_meets F.bm_called.init.lookup F.bm_called.made (by decide) prog w A.in1 _ s₁ ⟨h₁.1, rfl, h₁.2⟩⟩
end
end Mine
end

section
open PySem PySem.W PySem.Calls PySem.Spec PyProof.Rows PyProof.V
set_option maxRecDepth 100000
set_option maxHeartbeats 8000000
namespace Mine
/-! a for over a range whose target is a cell -/
def CellLoop (prog : Program) (w : World) (A : Around) (env : Env) (x : PySem.Str) (px : Pos) (body : List Stmt) (Q : Flow → Shared → Prop) (E : Value → Shared → Prop) (it : Value) (s₂ : Shared) : Prop :=
  codeAny (model prog w) A (.forLoop (.Name x px) it body [] env) (fun r s' => match r with | .ok f => Q f s' | .error e => cameBackBy (model prog w) A env E e s') s₂
def CellEnd (h₀ : Heap) (L : Addr) (s : Shared) (I : Addr) (it : Obj) (J : (PySem.Str → Option Value) → Led → Prop) (s₃ : Shared) : Prop :=
  ∃ h tk m led, s₃ = { s with heap := h, toks := tk } ∧ Fr h₀ L h m ∧ News h₀ L h ((I, it) :: led) ∧ (∀ p ∈ led, p.1 ≠ I) ∧ J m led
def CellPost (h₀ : Heap) (L : Addr) (s : Shared) (I : Addr) (it : Obj) (J : (PySem.Str → Option Value) → Led → Prop) (Q : Flow → Shared → Prop) (f : Flow) (s₃ : Shared) : Prop :=
  match f with
  | .ret v => Q (.ret v) s₃
  | .brk => Q .next s₃
  | _ => CellEnd h₀ L s I it J s₃
section
variable {prog : Program} {w : World} {A : Around} {E : Value → Shared → Prop} {s : Shared} {env : Env} {h₀ : Heap} {x : PySem.Str} {px pos : Pos} {body : List Stmt} {Q : Flow → Shared → Prop} {iter : Expr}
theorem cell_for (h : wpAny (model prog w) A (eval iter env) (fun xv s₁ => wpAny (model prog w) A (pyIter xv) (fun it s₂ => CellLoop prog w A env x px body Q E it s₂) E s₁) E s)
    (hs : ∀ x, foldedSetIterable iter env x = pure x := by intro _; rfl) : wpAny (model prog w) A (exec (.For (.Name x px) iter body [] pos) env) Q E s := wpAny_For h hs
theorem cell_range {r : Addr} {a₀ b₀ c : Int} {t₀ u₀ v₀ : Tok} {n : Nat} {m₀ : PySem.Str → Option Value} {news : Led}
    (hh : A.handled = none) (hr : IsRange s.heap r a₀ b₀ c t₀ u₀ v₀) (hsmall : Builtin.Range.small a₀ b₀ c = true) (hn : Builtin.Range.rangeSize a₀ b₀ c = (n : Int)) (F : Fr h₀ env.locals s.heap m₀) (N : News h₀ env.locals s.heap news)
    (J : Nat → (PySem.Str → Option Value) → Led → Prop) (h0 : J 0 m₀ news)
    (turn : ∀ (I : Addr) (i : Nat) (t : Tok) h tk m led, i < n → J i m led → (∀ p ∈ led, p.1 ≠ I) → Fr h₀ env.locals h m → News h₀ env.locals h ((I, krsIt (a₀ + ((i + 1 : Nat) : Int) * c) ((n : Int) - ((i + 1 : Nat) : Int)) c) :: led) →
      wpAny (model prog w) A (storeName env x (.int (a₀ + (i : Int) * c) t)) (fun _ s₂ => wpAny (model prog w) A (execs body env) (CellPost h₀ env.locals { s with heap := h, toks := tk } I (krsIt (a₀ + ((i + 1 : Nat) : Int) * c) ((n : Int) - ((i + 1 : Nat) : Int)) c) (J (i + 1)) Q) E s₂) E { s with heap := h, toks := tk })
    (done : ∀ h tk m led, J n m led → Fr h₀ env.locals h m → News h₀ env.locals h led → Q .next { s with heap := h, toks := tk })
    (hE : PassesOwn (model prog w) A env E := by passes_own) :
    wpAny (model prog w) A (pyIter (.ref r)) (fun it s₂ => CellLoop prog w A env x px body Q E it s₂) E s := by
  refine wpAny_pyIter_range hr hsmall ?_
  have hfresh := next_is_new F
  have hI : News h₀ env.locals (s.heap.push { cls := .type "range_iterator", data := .fields #[rawInt a₀, rawInt (Builtin.Range.rangeSize a₀ b₀ c), rawInt c] }) ((s.heap.objs.size, krsIt a₀ (n : Int) c) :: news) := by
    rw [hn]
    exact News.push F N _ rfl
  refine codeAny_forLoop
    (fun k s' => ∃ h' tk m' led i, s' = { s with heap := h', toks := tk } ∧ Fr h₀ env.locals h' m' ∧ News h₀ env.locals h' ((s.heap.objs.size, krsIt (a₀ + (i : Nat) * c) ((n : Int) - (i : Nat)) c) :: led) ∧ (∀ p ∈ led, p.1 ≠ s.heap.objs.size) ∧ J i m' led ∧ i ≤ n ∧ k = n + 1 - i) ?_ (n + 1)
    ⟨_, s.toks, m₀, news, 0, rfl, F.push _, by simpa using hI, fun p hp => Nat.ne_of_lt (Heap.lt_size (N p hp).1), h0, Nat.zero_le _, rfl⟩
  rintro k s' ⟨h', tk, m', led, i, rfl, F', N', hne, hJ, hi, rfl⟩
  have hit : IsRangeIter h' s.heap.objs.size (a₀ + (i : Nat) * c) ((n : Int) - (i : Nat)) c := (N' _ (.head _)).1
  have hIL : s.heap.objs.size ≠ env.locals := (N' _ (.head _)).2.1
  have hIn : h₀.get? s.heap.objs.size = none := (N' _ (.head _)).2.2
  by_cases hlt : i < n
  · refine wpAny_pyNext_range_item hit (by omega) fun h₁ hit₁ hs₁ => ?_
    have F₁ : Fr h₀ env.locals h₁ m' := ⟨F'.ns.sameBut hs₁ (Ne.symm hIL), fun b o e => (hs₁.2 b fun q => by rw [q, hIn] at e; cases e).trans (F'.keep b o e), F'.above⟩
    have N₁ : News h₀ env.locals h₁ ((s.heap.objs.size, krsIt (a₀ + ((i + 1 : Nat) : Int) * c) ((n : Int) - ((i + 1 : Nat) : Int)) c) :: led) := fun p hp => by
      rcases List.mem_cons.mp hp with rfl | hp
      · refine ⟨?_, hIL, hIn⟩
        have e1 : a₀ + ((i + 1 : Nat) : Int) * c = a₀ + (i : Int) * c + c := by push_cast; rw [Int.add_mul, Int.one_mul, Int.add_assoc]
        have e2 : (n : Int) - ((i + 1 : Nat) : Int) = (n : Int) - (i : Int) - 1 := by push_cast; omega
        show h₁.get? s.heap.objs.size = _
        rw [e1, e2]
        exact hit₁
      · have P := N' p (.tail _ hp)
        exact ⟨(hs₁.2 p.1 (hne p hp)).trans P.1, P.2⟩
    refine wpAny_assign_Name (wpAny_passesOwn hE ?_)
    refine wpAny_mono (turn s.heap.objs.size i _ h₁ _ m' led hlt hJ hne F₁ N₁) (fun _ s₂ h₂ => wpAny_passesOwn hE ?_) fun _ _ e => e
    refine wpAny_mono h₂ (fun f s₃ h₃ => ?_) fun _ _ e => e
    cases f with
    | ret v => exact h₃
    | brk => exact h₃
    | cont =>
      obtain ⟨h₄, tk₄, m₄, led₄, rfl, F₄, N₄, ne₄, J₄⟩ := h₃
      exact ⟨n + 1 - (i + 1), by omega, h₄, tk₄, m₄, led₄, i + 1, rfl, F₄, N₄, ne₄, J₄, hlt, rfl⟩
    | next =>
      obtain ⟨h₄, tk₄, m₄, led₄, rfl, F₄, N₄, ne₄, J₄⟩ := h₃
      exact ⟨n + 1 - (i + 1), by omega, h₄, tk₄, m₄, led₄, i + 1, rfl, F₄, N₄, ne₄, J₄, hlt, rfl⟩
  · have hin : i = n := by omega
    subst hin
    refine wpAny_pyNext_range_end hh hit (by omega) fun h₁ he₁ => wpAny_execs_nil ?_
    refine done h₁ _ m' led hJ ⟨F'.ns.extBut he₁ (Ne.symm hIL), fun b o e => he₁ b o (fun q => by rw [q, hIn] at e; cases e) (F'.keep b o e), F'.above⟩ fun p hp => ?_
    have P := N' p (.tail _ hp)
    exact ⟨he₁ _ _ (hne p hp) P.1, P.2⟩
end
end Mine
end

section
open PySem PySem.W PySem.Calls PyProof.Rows
set_option maxRecDepth 100000
set_option maxHeartbeats 8000000
namespace Mine
def fillArr (b : Array UInt8) : Array UInt8 := b ++ Array.replicate (7 - (b.size : Int).fmod 8).toNat 0 ++ #[((b.size : Int).fmod 256).toNat.toUInt8]
def lrow (k0 k1 : Int) (F : Array UInt8) : Nat → Int × Int × Int × Int
  | 0 => (Builtin.bitXor 8317987319222330741 k0, Builtin.bitXor 7237128888997146477 k1, Builtin.bitXor 7816392313619706465 k0, Builtin.bitXor 8387220255154660723 k1)
  | i + 1 =>
    let r := lrow k0 k1 F i
    let r := sround r.1 r.2.1 r.2.2.1 (Builtin.bitXor r.2.2.2 (lword F i))
    let r := sround r.1 r.2.1 r.2.2.1 r.2.2.2
    (Builtin.bitXor r.1 (lword F i), r.2.1, r.2.2.1, r.2.2.2)
def LJ (L' : Nat) (k0 k1 : Int) (F : Array UInt8) (i : Nat) (m : PySem.Str → Option Value) (led : Led) : Prop :=
  ∃ (l : Addr) (nn : Nat) (v0 v1 v2 v3 : Int) (u0 u1 u2 u3 : Tok) (m₁ : PySem.Str → Option Value) (o1 o2 : Obj) (ov : Option Value) (tF : Tok),
    led = [(l, listOf #[.int v0 u0, .int v1 u1, .int v2 u2, .int v3 u3] nn), (L' + 1 + 1, o2), (L' + 1, o1)] ∧ m = (fun y => if y = PySem.Str.ofString "row" then some (.ref l) else m₁ y) ∧
    o1.data = .cell (some (.bytes F tF)) ∧ o2.data = .cell ov ∧ l ≠ L' + 1 + 1 ∧ l ≠ L' + 1 ∧ lrow k0 k1 F i = (v0, v1, v2, v3) ∧ W v0 ∧ W v1 ∧ W v2 ∧ W v3
theorem LJ.zero {L' : Nat} {k0 k1 : Int} {F : Array UInt8} {l : Addr} {nn : Nat} {u0 u1 u2 u3 : Tok} {m₁ : PySem.Str → Option Value} {o1 o2 : Obj} {ov : Option Value} {tF : Tok}
    (d1 : o1.data = .cell (some (.bytes F tF))) (d2 : o2.data = .cell ov) (n1 : l ≠ L' + 1 + 1) (n2 : l ≠ L' + 1) (hw0 : W k0) (hw1 : W k1) :
    LJ L' k0 k1 F 0 (fun y => if y = PySem.Str.ofString "row" then some (.ref l) else m₁ y) [(l, listOf #[.int (Builtin.bitXor 8317987319222330741 k0) u0, .int (Builtin.bitXor 7237128888997146477 k1) u1, .int (Builtin.bitXor 7816392313619706465 k0) u2, .int (Builtin.bitXor 8387220255154660723 k1) u3] nn), (L' + 1 + 1, o2), (L' + 1, o1)] :=
  ⟨_, _, _, _, _, _, _, _, _, _, _, _, _, _, _, rfl, rfl, d1, d2, n1, n2, rfl, W.xor W.lit hw0, W.xor W.lit hw1, W.xor W.lit hw0, W.xor W.lit hw1⟩
theorem LJ.next {L' : Nat} {k0 k1 : Int} {F : Array UInt8} {i : Nat} {l : Addr} {nn : Nat} {v0 v1 v2 v3 a0 a1 a2 a3 b0 b1 b2 b3 wd : Int} {u0 u1 u2 u3 : Tok} {m₁ : PySem.Str → Option Value} {o1 o2 : Obj} {ov : Option Value} {tF : Tok}
    (er : lrow k0 k1 F i = (v0, v1, v2, v3)) (ew : lword F i = wd) (ww : W wd) (e2 : sround a0 a1 a2 a3 = (b0, b1, b2, b3)) (e1 : sround v0 v1 v2 (Builtin.bitXor v3 wd) = (a0, a1, a2, a3))
    (d1 : o1.data = .cell (some (.bytes F tF))) (d2 : o2.data = .cell ov) (n1 : l ≠ L' + 1 + 1) (n2 : l ≠ L' + 1) (w0 : W b0) (w1 : W b1) (w2 : W b2) (w3 : W b3) :
    LJ L' k0 k1 F (i + 1) (fun y => if y = PySem.Str.ofString "row" then some (.ref l) else m₁ y) [(l, listOf #[.int (Builtin.bitXor b0 wd) u0, .int b1 u1, .int b2 u2, .int b3 u3] nn), (L' + 1 + 1, o2), (L' + 1, o1)] :=
  ⟨_, _, _, _, _, _, _, _, _, _, _, _, _, _, _, rfl, rfl, d1, d2, n1, n2, by simp only [lrow, er, ew, e1, e2], W.xor w0 ww, w1, w2, w3⟩
def lawSum (k0 k1 : Int) (b : Array UInt8) : Int :=
  let r := lrow k0 k1 (fillArr b) (b.size / 8 + 1)
  let r := sround r.1 r.2.1 (Builtin.bitXor r.2.2.1 255) r.2.2.2
  let r := sround r.1 r.2.1 r.2.2.1 r.2.2.2
  let r := sround r.1 r.2.1 r.2.2.1 r.2.2.2
  let r := sround r.1 r.2.1 r.2.2.1 r.2.2.2
  Builtin.bitXor (Builtin.bitXor (Builtin.bitXor r.1 r.2.1) r.2.2.1) r.2.2.2
theorem law_end {k0 k1 : Int} {b : Array UInt8} {v0 v1 v2 v3 a0 a1 a2 a3 b0 b1 b2 b3 c0 c1 c2 c3 d0 d1 d2 d3 : Int}
    (h4 : sround c0 c1 c2 c3 = (d0, d1, d2, d3)) (h3 : sround b0 b1 b2 b3 = (c0, c1, c2, c3)) (h2 : sround a0 a1 a2 a3 = (b0, b1, b2, b3)) (h1 : sround v0 v1 (Builtin.bitXor v2 255) v3 = (a0, a1, a2, a3))
    (h : lrow k0 k1 (fillArr b) (b.size / 8 + 1) = (v0, v1, v2, v3)) : Builtin.bitXor (Builtin.bitXor (Builtin.bitXor d0 d1) d2) d3 = lawSum k0 k1 b := by
  unfold lawSum
  simp only [h, h1, h2, h3, h4]
theorem row_size {c : Nat} (h : c ≤ 4096) : Builtin.Range.rangeSize 0 ((8 * c + 8 : Nat) : Int) 8 = ((c + 1 : Nat) : Int) := by
  unfold Builtin.Range.rangeSize
  rw [if_pos (by decide), if_pos (by omega)]
  omega
theorem row_small {c : Nat} (h : c ≤ 4096) : Builtin.Range.small 0 ((8 * c + 8 : Nat) : Int) 8 = true := by
  unfold Builtin.Range.small
  rw [row_size h]
  rw [if_pos (by decide)]
  have e : ∀ x : Int, 0 ≤ x → x < 100000 → Builtin.Range.rangeFitsLong x = true := by
    intro x h0 h1
    unfold Builtin.Range.rangeFitsLong
    exact Bool.and_eq_true_iff.mpr ⟨decide_eq_true (by omega), decide_eq_true (by omega)⟩
  rw [e 0 (by decide) (by decide), e 8 (by decide) (by decide), e _ (by omega) (by omega), e _ (by omega) (by omega), e _ (by omega) (by omega)]
  simp
local macro_rules | `(tactic| walk_at "call type:bytes") => `(tactic| (
  k_here
  (with_reducible show wpAny _ _ (PySem.call (Value.type "bytes") [Value.int _ _] _) _ _ _)
  refine' call_bytes_int ?bh0 ?bh1 ?_
  (case bh0 => first | omega | l_fact)
  (case bh1 => first | omega | l_fact)
  intro t9 tk9))
theorem fill_size {b : Array UInt8} {c : Nat} (h0 : 8 * c ≤ b.size) (h1 : b.size < 8 * c + 8) : (fillArr b).size = 8 * c + 8 := by
  unfold fillArr
  rw [Array.size_append, Array.size_append, Array.size_replicate]
  simp only [List.size_toArray, List.length_cons, List.length_nil]
  rw [Int.fmod_eq_emod_of_nonneg _ (by decide)]
  omega
section
variable {prog : Program} {w : World} {A : Around} {E : Value → Shared → Prop} {s : Shared}
theorem add_pad {b : Array UInt8} {n : Int} {t u : Tok} {Q : Value → Shared → Prop} (hn : n ≤ 4096) (hb : b.size ≤ 4096) (h : ∀ t' k, Q (.bytes (b ++ Array.replicate n.toNat 0) t') { s with toks := k }) :
    wpAny (model prog w) A (binaryOp .Add (.bytes b t) (.bytes (Array.replicate n.toNat 0) u)) Q E s :=
  KBy.add_bytes (by rw [Array.size_replicate]; omega) h
theorem add_fill {b : Array UInt8} {t u : Tok} {Q : Value → Shared → Prop} (hb : b.size ≤ 4096) (h : ∀ t' k, (fillArr b).size = 8 * (b.size / 8) + 8 → Q (.bytes (fillArr b) t') { s with toks := k }) :
    wpAny (model prog w) A (binaryOp .Add (.bytes (b ++ Array.replicate (7 - (b.size : Int).fmod 8).toNat 0) t) (.bytes #[((b.size : Int).fmod 256).toNat.toUInt8] u)) Q E s := by
  have hs := fill_size (b := b) (c := b.size / 8) (by omega) (by omega)
  refine KBy.add_bytes ?_ fun t' k => h t' k hs
  unfold fillArr at hs
  rw [Array.size_append] at hs
  omega
end
local macro_rules | `(tactic| walk_at "binaryOp Add bytes bytes") => `(tactic| (
  k_here
  (with_reducible show wpAny _ _ (binaryOp Operator.Add (Value.bytes _ _) (Value.bytes (Array.replicate _ _) _)) _ _ _)
  refine' add_pad ?bhz ?bhy ?_
  (case bhz => l_fact)
  (case bhy => omega)
  intro t9 tk9))
local macro_rules | `(tactic| walk_at "binaryOp Add bytes bytes") => `(tactic| (
  k_here
  (with_reducible show wpAny _ _ (binaryOp Operator.Add (Value.bytes (_ ++ Array.replicate _ _) _) (Value.bytes (List.toArray [_]) _)) _ _ _)
  (with_reducible refine' add_fill ?bh0 ?_)
  (case bh0 => omega)
  intro t9 tk9 sF9))
local macro_rules | `(tactic| walk_at "subscriptTail") => `(tactic| (
  k_here
  (with_reducible show wpAny _ _ (subscriptTail _ _ (Value.bytes (fillArr _) _) (Value.int _ _)) _ _ _)
  k_dflt (refine' KBw.item_K (ks := KBw.bInts (fillArr _)) ?fa ?fb ?fc ?fd ?_)
  (case fa => rfl)
  (case fb => rw [KBw.ints_length]; omega)
  (case fc => omega)
  (case fd => rw [KBw.ints_length]; omega)
  intro t9 tk9 lo9 hi9))
local macro_rules | `(tactic| walk_at "storeName") => `(tactic| (
  k_here
  (with_reducible show wpAny _ _ (storeName _ _ (Value.int (List.sum (List.map _ (rangeKs _ _))) _)) _ _ _)
  k_dflt (refine store_word ?_)
  intro wd eWd wWd))
local macro_rules | `(tactic| walk_at "binaryOp BitXor int int") => `(tactic| (
  k_here
  (first
    | (with_reducible show wpAny _ _ (binaryOp _ (Value.int (List.getD _ _ _) _) _) _ _ _)
    | (with_reducible show wpAny _ _ (binaryOp _ _ (Value.int (List.getD _ _ _) _)) _ _ _))
  simp only [Int.reduceToNat, List.getD_cons_succ, List.getD_cons_zero]))
local macro_rules | `(tactic| walk_at "call ref") => `(tactic| (
  k_here
  (with_reducible show wpAny _ _ (PySem.call (Value.ref 115) _ _) _ _ _)
  k_dflt (refine' Ct.use (lround_ct _ _ _ _ _ _ _ _ _ _ _ _ _ _ _ ?hm ?h1 ?h2 ?h3 ?h4) ?k1 ?k2 ?k3 ?k4 ?k5 ?kK ?kd ?ku ?_)
  (case k1 => k_asm)
  (case k2 => k_asm)
  (case k3 => k_asm)
  (case k4 => k_asm)
  (case k5 => k_asm)
  (case kK => first | exact rfl | assumption)
  (case kd => ktr_room)
  (case ku => ktr_units)
  (case hm => k_dflt k_mem)
  (case h1 => repeat (with_reducible first | assumption | exact W.fmod _ | exact W.rotl _ _ | refine W.xor ?_ ?_ | exact W.lit))
  (case h2 => repeat (with_reducible first | assumption | exact W.fmod _ | exact W.rotl _ _ | refine W.xor ?_ ?_ | exact W.lit))
  (case h3 => repeat (with_reducible first | assumption | exact W.fmod _ | exact W.rotl _ _ | refine W.xor ?_ ?_ | exact W.lit))
  (case h4 => repeat (with_reducible first | assumption | exact W.fmod _ | exact W.rotl _ _ | refine W.xor ?_ ?_ | exact W.lit))
  k_dflt (intro v0' v1' v2' v3' t0' t1' t2' t3' r9 h9 tk9 eR W0' W1' W2' W3' F9 N9 l9)
  (try k_lt l9)
  (try dsimp only)
  (try k_fold)))
theorem lsum_ct (w : World) (mean : ExcName → Option Value) (mg mb : Str → Option Value) (k0 k1 : Int) (t0 t1 t2 : Tok) (b : Array UInt8) (hw0 : W k0) (hw1 : W k1) (hb : b.size ≤ 16) :
    Ct w mean mg mb 120 4 [] [.int k0 t0, .int k1 t1, .bytes b t2] (BInt [] (lawSum k0 k1 b)) := by
  unfold Ct
  k_with_none
  k_fill
  intro dp un gd cn cs a ccd cl outer A₀ base h₀ L m s Q E B F X N T hk hd hu hret
  refine wpAny_call ?_
  k_dflt (refine' code_defC ?k1 ?k2 ?k3 ?k4 ?k5 ?kA ?kF ?kK ?k6 ?k7 ?k8 ?k9 ?kB ?kD ?_ ?c2 ?c3 ?c4; (case kA => exact rfl); (case kF => exact rfl); (case kK => assumption); (case k1 => k_asm); (case k2 => k_asm); (case k3 => k_asm); (case k4 => k_asm); (case k5 => k_asm); (case k6 => k_is); (case k7 => k_is); (case k8 => ktr_room); (case k9 => exact BindsTo.of_eq rfl); (case kB => exact rfl); (case kD => decide +kernel); (case c2 => exact rfl); (case c3 => exact rfl); (case c4 => exact rfl); k_whole; intro g' L' h' tk' cells' FG' F' N' Y' B' X' T' l1; (try k_lt l1); k_cells Y'; (try simp only [List.cons_append, List.nil_append] at N'); (try dsimp only); (try k_lift B'); (try k_fold))
  k_with "exec For Name Call cons nil" => (refine cell_for ?_)
  k_with "pyIter ref" => (
    with_reducible show wpAny _ _ _ (fun it s₂ => CellLoop _ _ _ _ _ _ _ _ _ it s₂) _ _
    have hc : b.size / 8 ≤ 4096 := by omega
    rename (fillArr b).size = _ => hF
    rename IsRange _ _ _ _ _ _ _ _ => hR
    rw [hF] at hR
    with_unfolding_all (refine' cell_range (by rfl) hR (row_small hc) (row_size hc) (by assumption) ?crN (LJ L' k0 k1 (fillArr b)) (LJ.zero ?cra ?crb ?crc ?crd hw0 hw1) ?crT ?crD)
    case crN => exact cb_drop (by assumption) (by kcj_all)
    case cra => assumption
    case crb => assumption
    case crc => k_ne
    case crd => k_ne
    case' crT =>
      intro I i t h9 tk9 m9 led hi hJ hne F9 N9
      obtain ⟨l, nn, v0, v1, v2, v3, u0, u1, u2, u3, m₁, o1, o2, ov, tF, rfl, rfl, d1, d2, n1, n2, er, w0, w1, w2, w3⟩ := hJ
      have n3 := hne _ (.head _)
      have n4 := hne _ (.tail _ (.head _))
      have n5 := hne _ (.tail _ (.tail _ (.head _)))
      dsimp only at n3 n4 n5
      clear hne
      replace n1 := neN n1
      replace n2 := neN n2
      replace n3 := neN n3
      replace n4 := neN n4
      replace n5 := neN n5
    case' crD =>
      intro h9 tk9 m9 led hJ F9 N9
      obtain ⟨l, nn, v0, v1, v2, v3, u0, u1, u2, u3, m₁, o1, o2, ov, tF, rfl, rfl, d1, d2, n1, n2, er, w0, w1, w2, w3⟩ := hJ
      replace n1 := neN n1
      replace n2 := neN n2)
  k_steps
  all_goals first
    | (refine cb_retI hret ?e (by k_asm) (fun _ hp => nomatch hp)
       with_reducible exact law_end (by assumption) (by assumption) (by assumption) (by assumption) (by assumption))
    | (show CellEnd _ _ _ _ _ _ _
       refine' ⟨_, _, _, _, rfl, ?tF, ?tN, ?tO, LJ.next ?t1 ?t2 ?t3 ?t4 ?t5 ?t6 ?t7 ?t8 ?t9 ?ta ?tb ?tc ?td⟩
       case tF => k_asm
       case tN => exact cb_drop (by assumption) (by kcj_all)
       case t1 => with_reducible assumption
       case t2 => with_reducible assumption
       case t3 => with_reducible assumption
       case t4 => with_reducible assumption
       case t5 => with_reducible assumption
       case t6 => with_reducible assumption
       case t7 => with_reducible assumption
       case t8 => k_ne
       case t9 => k_ne
       case ta => with_reducible assumption
       case tb => with_reducible assumption
       case tc => with_reducible assumption
       case td => with_reducible assumption
       case tO => k_all)
end Mine
end

section
open PySem PySem.W PySem.Calls PySem.Spec PyProof.Rows
set_option maxRecDepth 100000
set_option maxHeartbeats 8000000
namespace Mine
open Sem (wp)
/-! an own exception class whose __new__ and __init__ come from two built-in classes -/
section
variable {M : Model} {A : Around} {E : Value → Shared → Prop} {h : Heap} {g : Array GenState} {d : Drawn} {t : Nat} {os : OsState}
variable {nm q : PySem.Str} {C N : Addr} {bs bm bmN bmI : List Value} {hdct : Bool} {sn : List PySem.Str} {sub : List Value} {ab : Bool} {col : Option Bool} {dd : Option Addr} {k0 k1 k2 k3 k5 : Option Value} {BN BI newId newI initN initId : String}
theorem xm_check_new (FN : ExcBaseFacts BN newId initN bmN) (hB : bm.contains (.type BN) = true) {rest : List Value} {Q : Unit → Shared → Prop} (hC : h.get? C = some (excClassObj nm q C N bs bm hdct sn sub ab col dd k0 k1 k2 k3 k5 newId))
    (hq : Q () ⟨h, g, d, t, os⟩) : wpAny M A (checkBuiltinCall newId ⟨.ref C :: rest, []⟩) Q E ⟨h, g, d, t, os⟩ := by
  have hcont : (Value.ref C :: bm).contains (.type BN) = true := by rw [List.contains_cons, hB, Bool.or_true]
  have hstar := FN.noStar
  simp only [checkBuiltinCall, FN.newKind, FN.newSplit, FN.newRow]
  repeat (first | refine wpAny_loadPart_at hC ?_ | (refine wpAny_isSubtype_exc hC ?_; rw [hcont]) | refine wpAny_staticBase_exc hC ?_ | refine wpAny_madeBy_exc hC ?_ | simp only [bne_self_eq_false, Bool.false_eq_true, if_false] | wp_step)
  exact hq
theorem xm_check_init (FI : ExcBaseFacts BI newI initId bmI) (T : OwnTail h bmI bm) {e : Addr} {oe : Obj} {rest : List Value} {Q : Unit → Shared → Prop}
    (hC : h.get? C = some (excClassObj nm q C N bs bm hdct sn sub ab col dd k0 k1 k2 k3 k5 newId)) (he : h.get? e = some oe) (hcls : oe.cls = .ref C) (hq : Q () ⟨h, g, d, t, os⟩) :
    wpAny M A (checkBuiltinCall initId ⟨.ref e :: rest, []⟩) Q E ⟨h, g, d, t, os⟩ := by
  have hcB : (Value.ref C :: bm).contains (.type BI) = true := by rw [List.contains_cons, T.hasType FI.hasB, Bool.or_true]
  have hshort := FI.noStar
  simp only [checkBuiltinCall, FI.initKind, FI.initSplit, FI.initRow]
  repeat (first | (with_reducible refine wpAny_loadPart_at he ?_; rw [hcls]) | with_reducible refine wpAny_loadPart_at hC ?_ | (with_reducible refine wpAny_isSubtype_exc hC ?_; rw [hcB]) | wp_step)
  refine wpAny_onRaise ?_
  rw [show ∀ (a b : String) (n : Nat), Bind.check ⟨.positional, "*", BI, .self, [⟨"args", .varPos, false⟩]⟩ a b n (List.map (fun x => x.fst) ({ pos := Value.ref e :: rest } : Args).kw) = pure () from
    fun a b n => check_star_args _ _ _ _ _ _]
  exact wpAny_pure hq
end
section
variable {prog : Program} {w : World} {A : Around} {R : Result → Shared → Prop} {h : Heap} {g : Array GenState} {d : Drawn} {t : Nat} {os : OsState} {E : Value → Shared → Prop}
variable {nm q : PySem.Str} {C N : Addr} {bs bm bmN bmI : List Value} {hdct : Bool} {sn : List PySem.Str} {sub : List Value} {ab : Bool} {col : Option Bool} {dd : Option Addr} {k0 k1 k2 k3 k5 : Option Value} {BN BI newId newI initN initId : String}
theorem xm_new (FN : ExcBaseFacts BN newId initN bmN) (FI : ExcBaseFacts BI newI initId bmI) (hBI : bmI.contains (.type BN) = true) (T : OwnTail h bmI bm) {rest : List Value} (hC : h.get? C = some (excClassObj nm q C N bs bm hdct sn sub ab col dd k0 k1 k2 k3 k5 newId))
    (hq : R (.ok (.ret (.ref (h.objs.size + 1)))) ⟨(h.push { cls := .type "tuple", data := .seq rest.toArray }).push
      { cls := .ref C, data := .fields #[.ref h.objs.size, .none, .none, .none, .bool false, .none] }, g, d, t, os⟩) (hrest : rest.length ≤ sizeLine) :
    codeAny (model prog w) A (.builtin newId ⟨.ref C :: rest, []⟩) R ⟨h, g, d, t, os⟩ := by
  have hends := FN.ends
  have hcB : (Value.ref C :: bm).contains (.type BN) = true := by rw [List.contains_cons, T.hasType hBI, Bool.or_true]
  have hcA : (Value.ref C :: bm).contains (.type "AttributeError") = false := by rw [List.contains_cons, T.hasType FI.noAttr]; rfl
  have hcN : (Value.ref C :: bm).contains (.type "NameError") = false := by rw [List.contains_cons, T.hasType FI.noName]; rfl
  refine codeAny_builtinAt FN.entry ?_
  unfold Builtin.«BaseException.__new__»
  refine PySem.wpAt_bind ?_
  show PySem.wpAt _ _ _ (stack >>= _) _ _ _
  refine PySem.wpAt_bind (PySem.wpAt_stack fun p below => PySem.wpAt_of_wpAny ?_)
  wp_walk
  refine PySem.wpAt_of_wpAny ?_
  rw [FN.owner]
  repeat (first | with_reducible refine wpAny_madeHere_exc FN.canon hC ?_ | with_reducible refine wpAny_loadPart_at hC ?_ | (with_reducible refine wpAny_isSubtype_exc hC ?_; first | rw [hcB] | rw [hcA] | rw [hcN]) | wp_step)
  show R _ _
  rw [Heap.size_push]
  exact hq
theorem xm_type_call (FN : ExcBaseFacts BN newId initN bmN) (FI : ExcBaseFacts BI newI initId bmI) (hBI : bmI.contains (.type BN) = true) (T : OwnTail h bmI bm) {mN : PySem.Str → Option Value} {rest : List Value} {Q : Fin → Shared → Prop}
    (hC : h.get? C = some (excClassObj nm q C N bs bm hdct sn sub ab col dd k0 k1 k2 k3 k5 newId)) (hn : h.Ns N mN) (hni : mN "__init__" = none)
    (hq : ∀ h' e, Heap.MadeExcOf h h' e (.ref C) rest → Q (.done (.ret (.ref e))) ⟨h', g, d, t, os⟩) (hrest : rest.length ≤ sizeLine) :
    wpAny (model prog w) A (Builtin.«type.__call__» ⟨.ref C :: rest, []⟩) Q E ⟨h, g, d, t, os⟩ := by
  repeat (first | with_reducible refine wpAny_loadPart_at hC ?_ | with_reducible refine wpAny_madeBy_exc hC ?_ | wp_step)
  refine codeAny_call_builtin_code (Code.quiet_builtin _ FN.quiet) (xm_check_new FN (T.hasType hBI) hC ?_)
  refine xm_new FN FI hBI T hC ?_ hrest
  show wpAny _ _ _ _ _ _
  have hC₁ := Heap.get?_push_of_some { cls := .ref C, data := .fields #[.ref h.objs.size, .none, .none, .none, .bool false, .none] }
    (Heap.get?_push_of_some { cls := .type "tuple", data := .seq rest.toArray } hC)
  have hn₁ : ((h.push { cls := .type "tuple", data := .seq rest.toArray }).push { cls := .ref C, data := .fields #[.ref h.objs.size, .none, .none, .none, .bool false, .none] }).Ns N mN :=
    let ⟨o, es, ep, e, r⟩ := hn; ⟨o, es, ep, Heap.get?_push_of_some _ (Heap.get?_push_of_some _ e), r⟩
  have hget : ((h.push { cls := .type "tuple", data := .seq rest.toArray }).push
      { cls := .ref C, data := .fields #[.ref h.objs.size, .none, .none, .none, .bool false, .none] }).get? (h.objs.size + 1) = some
      { cls := .ref C, data := .fields #[.ref h.objs.size, .none, .none, .none, .bool false, .none] } := by heap_get
  have hcC : (Value.ref C :: bm).contains (.ref C) = true := by simp
  have T₁ := T.keeps (h' := (h.push { cls := .type "tuple", data := .seq rest.toArray }).push { cls := .ref C, data := .fields #[.ref h.objs.size, .none, .none, .none, .bool false, .none] })
    fun b o e => Heap.get?_push_of_some _ (Heap.get?_push_of_some _ e)
  unfold isInstance
  repeat (first | with_reducible refine wpAny_loadPart_at hget ?_ | (with_reducible refine wpAny_isSubtype_exc hC₁ ?_; rw [hcC]) | wp_step)
  show wpAny _ _ (typeLookup (.ref C) _) _ _ _
  refine wpAny_typeLookup_tail hC₁ hn₁ T₁ FI.mroIs FI.init.lookup ?_
  rw [hni]
  refine wpAny_holding (wpAny_bind (wpAny_of_eq (FI.init.bind _) ?_))
  refine wpAny_bind (wpAny_call (codeAny_call_builtin FI.init.plain FI.initEntry (xm_check_init FI T₁ hC₁ hget rfl ?_)))
  wp_walk
  refine hq _ _ ⟨fun b o hb => ?_, Heap.get?_none_of_le (Nat.le_succ _), h.objs.size + 2, ?_, Heap.get?_none_of_le (by omega), ?_⟩
  · rw [Heap.get?_update_other _ _ (Nat.ne_of_gt (Nat.lt_succ_of_lt (Heap.lt_size hb)))]
    exact Heap.get?_push_of_some _ (Heap.get?_push_of_some _ (Heap.get?_push_of_some _ hb))
  · rw [Heap.get?_update_self _ (Heap.get?_push_of_some _ hget) rfl]
    simp only [Heap.size_push]
    rfl
  · rw [Heap.get?_update_other _ _ (show h.objs.size + 1 ≠ h.objs.size + 2 by omega)]
    exact Heap.get?_push_at (by simp only [Heap.size_push]) rfl
theorem xm_call (FN : ExcBaseFacts BN newId initN bmN) (FI : ExcBaseFacts BI newI initId bmI) (hBI : bmI.contains (.type BN) = true) (T : OwnTail h bmI bm) {mN : PySem.Str → Option Value} {rest : List Value} {Q : Value → Shared → Prop}
    (hC : h.get? C = some (excClassObj nm q C N bs bm hdct sn sub ab col dd k0 k1 k2 k3 k5 newId)) (hn : h.Ns N mN) (hni : mN "__init__" = none)
    (hq : ∀ h' e, Heap.MadeExcOf h h' e (.ref C) rest → Q (.ref e) ⟨h', g, d, t, os⟩) (hrest : rest.length ≤ sizeLine) :
    wpAny (model prog w) A (call (.ref C) rest) Q E ⟨h, g, d, t, os⟩ := by
  have f1 := tc_lookup
  have f2 := tc_bind (.ref C)
  have hT : (⟨h, g, d, t, os⟩ : Shared).TypeIs (.ref C) "type" := ⟨_, hC, rfl⟩
  refine wpAny_call (codeAny_of_tree ?_)
  show wpAny _ _ (callAny (.ref C) _) _ _ _
  repeat (any_goals (first | assumption | with_reducible refine wpAny_loadPart_at hC ?_ | wp_step))
  refine ⟨rfl, ?_⟩
  refine codeAny_call_builtin_at (Code.quiet_builtin _ (by decide +kernel)) entry_typeCall (wpAny_check_type_call_sub hC (xm_type_call FN FI hBI T hC hn hni (fun h' e hm => ?_) hrest))
  exact hq h' e hm
end
section
variable {prog : Program} {w : World} {A : Around} {E : Value → Shared → Prop} {s : Shared} {env : Env}
variable {nm q : PySem.Str} {C N : Addr} {bs bm bmN bmI : List Value} {hdct : Bool} {sn : List PySem.Str} {sub : List Value} {ab : Bool} {col : Option Bool} {dd : Option Addr} {k0 k1 k2 k3 k5 : Option Value} {BN BI newId newI initN initId : String}
theorem xm_raise (FN : ExcBaseFacts BN newId initN bmN) (FI : ExcBaseFacts BI newI initId bmI) (hBI : bmI.contains (.type BN) = true) {mN : PySem.Str → Option Value} {x : PySem.Str} {np cpos pos : Pos} {args : List Expr} {Q : Flow → Shared → Prop}
    (hbase : bm.contains (.type "BaseException") = true) (hh : A.handled = none) (hplain : (backTo cpos (starEach args env)).any (·.1) = false) (hni : mN "__init__" = none)
    (h : wpAny (model prog w) A (eval (.Name x np) env) (fun f s₁ => f = .ref C ∧ wpAny (model prog w) A (evalArgs (.ref C) true (backTo cpos (starEach args env)) [])
      (fun a s₂ => a.kw = [] ∧ a.pos.length ≤ sizeLine ∧ s₂.heap.get? C = some (excClassObj nm q C N bs bm hdct sn sub ab col dd k0 k1 k2 k3 k5 newId) ∧ s₂.heap.Ns N mN ∧ OwnTail s₂.heap bmI bm ∧
        ∀ h' e, Heap.MadeExcOf s₂.heap h' e (.ref C) a.pos → E (.ref e) { s₂ with heap := h' }) E s₁) E s) :
    wpAny (model prog w) A (exec (.Raise (some (.Call (.Name x np) args [] cpos)) none pos) env) Q E s := by
  rw [arm_exec_Raise]
  first
    | refine wpAny_bind (wpAny_standAt (wpAny_raiseStmt_made_sub (C := C) (nm := nm) (q := q) (N := N) (bs := bs) (bm := bm) (hdct := hdct) (sn := sn) (sub := sub) (ab := ab) (col := col) (dd := dd) (k0 := k0) (k1 := k1) (k2 := k2) (k3 := k3) (k5 := k5) (newId := newId) hbase hh (wpAny_bind (wpAny_mono (wpAny_Call_ofName (wpAny_mono h (fun f s₁ h₁ => ?_) fun _ _ x => x)) (fun v s₃ h₃ => wpAny_bind (wpAny_standAt (wpAny_pure h₃))) fun _ _ x => x))))
    | (simp only [evalOpt, Option.map]; refine wpAny_bind (wpAny_standAt (wpAny_raiseStmt_made_sub (C := C) (nm := nm) (q := q) (N := N) (bs := bs) (bm := bm) (hdct := hdct) (sn := sn) (sub := sub) (ab := ab) (col := col) (dd := dd) (k0 := k0) (k1 := k1) (k2 := k2) (k3 := k3) (k5 := k5) (newId := newId) hbase hh (wpAny_bind (wpAny_mono (wpAny_Call_ofName (wpAny_mono h (fun f s₁ h₁ => ?_) fun _ _ x => x)) (fun v s₃ h₃ => wpAny_bind (wpAny_standAt (wpAny_pure h₃))) fun _ _ x => x)))))
  obtain ⟨rfl, h₁⟩ := h₁
  unfold callWith
  refine wpAny_bind (wpAny_holding (wpAny_mono h₁ (fun a s₂ h₂ => wpAny_bind (wpAny_standAt ?_)) fun _ _ x => x))
  obtain ⟨apos, akw⟩ := a
  obtain ⟨hkw, hlen, hC, hn, T, h₂⟩ := h₂
  obtain rfl : akw = [] := hkw
  obtain ⟨hp, g, d, tk, os⟩ := s₂
  simp only [hplain]
  refine wpAny_bind (wpAny_keeperOf_exc hC ?_)
  refine wpAny_bind (xm_call FN FI hBI T hC hn hni (fun h' e hm => wpAny_bind (wpAny_holding (wpAny_point (wpAny_pure ?_)))) hlen)
  obtain ⟨t, ht, _, _⟩ := hm.there
  exact ⟨e, t, rfl, hm.keeps _ _ hC, ht, h₂ h' e hm⟩
end
section
variable {prog : Program} {w : World} {A : Around} {E : Value → Shared → Prop} {s : Shared} {name : PySem.Str} {scope : Scope} {L a : Addr} {cd : Value} {h₀ : Heap} {m mg : PySem.Str → Option Value}
  {x : PySem.Str} {C : Addr} {BN BI newId newI initN initId : String} {bmN bm : List Value} {np cpos pos : Pos} {Q : Flow → Shared → Prop}
theorem Raise_mixed {e₀ : Expr} {rest : List Expr} (F : Fr h₀ L s.heap m) (hg : h₀.Ns mainGlobals mg) (O : OwnCls x C bm newId mg h₀) (FN : ExcBaseFacts BN newId initN bmN) (FI : ExcBaseFacts BI newI initId bm) (hBI : bm.contains (.type BN) = true) (hh : A.handled = none)
    (h : wpAny (model prog w) A (spliced (backTo cpos (starEach (e₀ :: rest) (envOf name scope L a cd)))) (fun vs s₂ => vs.length ≤ sizeLine ∧ (∀ b o, h₀.get? b = some o → s₂.heap.get? b = some o) ∧
      ∀ h' e, Heap.MadeExcOf s₂.heap h' e (.ref C) vs → E (.ref e) { s₂ with heap := h' }) E s)
    (he : starEach (e₀ :: rest) (envOf name scope L a cd) = (false, eval e₀ (envOf name scope L a cd)) :: starEach rest (envOf name scope L a cd) := by rfl)
    (hplain : (backTo cpos (starEach rest (envOf name scope L a cd))).any (·.1) = false := by rfl)
    (hk : scope.kind = .function := by rfl) (hx : (envOf name scope L a cd).kindOf x = some .globalImplicit := by rfl) (hd : (x == ("__debug__" : PySem.Str)) = false := by decide) :
    wpAny (model prog w) A (exec (.Raise (some (.Call (.Name x np) (e₀ :: rest) [] cpos)) none pos) (envOf name scope L a cd)) Q E s := by
  obtain ⟨tl, N, nm, q, bs, hdct, sn, sub, ab, col, dd, k0, k1, k2, k3, k5, mN, hC, hN, hni, T⟩ := O.obj
  refine xm_raise (C := C) (nm := nm) (q := q) (N := N) (bs := bs) (bm := tl) (hdct := hdct) (sn := sn) (sub := sub) (ab := ab) (col := col) (dd := dd) (k0 := k0) (k1 := k1) (k2 := k2) (k3 := k3) (k5 := k5)
    FN FI hBI (mN := mN) (T.hasType FI.hasBase) hh (by rw [he]; show (false || (backTo cpos (starEach rest (envOf name scope L a cd))).any (·.1)) = false; rw [hplain]; rfl) hni (ld_own F hg O ⟨rfl, ?_⟩ hk hx hd)
  rw [he] at h ⊢
  exact Calls.evalArgs_plain (wpAny_mono h (fun vs s₂ h₂ => ⟨rfl, h₂.1, h₂.2.1 _ _ hC, hN.keeps h₂.2.1, T.keeps h₂.2.1, h₂.2.2⟩) fun _ _ y => y)
end
end Mine
end

section
open PySem PySem.W PySem.Calls PyProof.Rows
set_option maxRecDepth 100000
set_option maxHeartbeats 8000000
namespace Mine
local macro_rules | `(tactic| k_room) => `(tactic| ktr_room)
def Ct0 (w : World) (mean : ExcName → Option Value) (mg mb : Str → Option Value) (f d : Nat) (vs : List Value) (x : PySem.Str) : Prop :=
  ∀ (dp un : Nat) (gd : Option (List Code)) (cn : Str) (cs : Scope) (a : Addr) (ccd : Value) (A₀ : Around) (h₀ : Heap) (L : Addr) (m : Str → Option Value) (s : Shared) (Q E : Value → Shared → Prop),
    Below A₀ h₀ [] h₀ → Fr h₀ L s.heap m → (Mine.hd.heap_39 w.params).In h₀ → News h₀ L s.heap [] →
    Top Mine.hd.view_39 (looseW Mine.hd.view_39 [Str.ofString "BTClibValueError", Str.ofString "BTClibTypeError", Str.ofString "bytes_from_octets"]) mean mg mb h₀ → cs.kind = .function →
    dp + d < recursionLimit → un + 8 * d < cLine → (∀ (t : Tok) (h' : Heap) (tk' : Nat), Fr h₀ L h' m → Q (.str x t) { s with heap := h', toks := tk' }) →
    wpAny (model Challenge.rw_ez0007_01.row.prog w) (ktrTop dp un gd cn cs L a ccd [] []) (call (.ref f) vs) Q E s
theorem Ct0.use {w : World} {mean : ExcName → Option Value} {mg mb : Str → Option Value} {f d : Nat} {vs : List Value} {x : PySem.Str} (C : Ct0 w mean mg mb f d vs x)
    {dp un : Nat} {gd : Option (List Code)} {cn : Str} {cs : Scope} {a : Addr} {ccd : Value} {A₀ : Around} {h₀ : Heap} {L : Addr} {m : Str → Option Value} {s : Shared} {Q E : Value → Shared → Prop}
    (B : Below A₀ h₀ [] h₀) (F : Fr h₀ L s.heap m) (X : (Mine.hd.heap_39 w.params).In h₀) (N : News h₀ L s.heap [])
    (T : Top Mine.hd.view_39 (looseW Mine.hd.view_39 [Str.ofString "BTClibValueError", Str.ofString "BTClibTypeError", Str.ofString "bytes_from_octets"]) mean mg mb h₀) (hk : cs.kind = .function)
    (hd : dp + d < recursionLimit) (hu : un + 8 * d < cLine) (hb : ∀ (t : Tok) (h' : Heap) (tk' : Nat), Fr h₀ L h' m → Q (.str x t) { s with heap := h', toks := tk' }) :
    wpAny (model Challenge.rw_ez0007_01.row.prog w) (ktrTop dp un gd cn cs L a ccd [] []) (call (.ref f) vs) Q E s :=
  C _ _ _ _ _ _ _ _ _ _ _ _ _ _ B F X N T hk hd hu hb
def BStr (x : PySem.Str) : BackT := fun h₀ L m s Q =>
  ∀ (t : Tok) (h' : Heap) (tk' : Nat), Fr h₀ L h' m → Q (.str x t) { s with heap := h', toks := tk' }
local macro_rules | `(tactic| walk_at "exec Raise some none") => `(tactic| (
  k_here
  (with_reducible show wpAny _ _ (exec (Stmt.Raise (some (Expr.Call (Expr.Name _ _) (_ :: _) [] _)) none _) _) _ _ _)
  k_dflt (first
    | (refine' Raise_mixed ?F ?g ?O PySem.F.excBase_Exception PySem.F.excBase_ValueError ?hb ?h ?_ ?a ?b ?c ?d ?e; (case F => k_asm); (case g => exact TopRead.g (by k_asm)); (case O => exact own_of_in (by k_asm) (by k_asm) (by k_is) (by k_exc)); (case hb => decide); (case h => first | rfl | assumption); (case a => rfl); (case b => rfl); (case c => rfl); (case d => rfl); (case e => decide); k_whole)
    | (refine' Raise_mixed ?F ?g ?O PySem.F.excBase_Exception PySem.F.excBase_TypeError ?hb ?h ?_ ?a ?b ?c ?d ?e; (case F => k_asm); (case g => exact TopRead.g (by k_asm)); (case O => exact own_of_in (by k_asm) (by k_asm) (by k_is) (by k_exc)); (case hb => decide); (case h => first | rfl | assumption); (case a => rfl); (case b => rfl); (case c => rfl); (case d => rfl); (case e => decide); k_whole))))
local macro_rules | `(tactic| walk_at "noteFrame ref") => `(tactic| (
  k_here
  (with_reducible rename RaisedS _ _ _ _ _ _ _ _ _ => rsX)
  k_dflt (refine' kts_lookS ?R ?F ?K ?U ?D ?_; (case R => with_reducible exact rsX); (case F => with_reducible assumption); (case K => with_reducible assumption); (case U => with_reducible assumption); (case D => with_reducible assumption); k_whole)
  intro h' R' U'
  (try dsimp only at R' U' ⊢)))
theorem ref1_ct (w : World) (mean : ExcName → Option Value) (mg mb : Str → Option Value) (t0 t1 : Tok) :
    Ct0 w mean mg mb 127 6 [.int (-1) t0, .int 0 t1] (PySem.Str.ofString "refused") := by
  unfold Ct0
  k_with_none
  k_fill
  intro dp un gd cn cs a ccd A₀ h₀ L m s Q E B F X N T hk hd hu hret
  refine wpAny_call ?_
  k_dflt (refine' code_defS0 ?k1 ?k2 ?k3 ?k4 ?k5 ?kA ?k6 ?k7 ?k8 ?k9 ?kB ?_ ?cK ?c2 ?c3 ?c4 ?c5; (case kA => exact rfl); (case k2 => k_asm); (case k1 => k_asm); (case k3 => k_asm); (case k4 => k_asm); (case k5 => k_asm); (case k6 => k_is); (case k7 => k_is); (case k8 => ktr_room); (case k9 => exact BindsTo.of_eq rfl); (case kB => exact locs rfl); (case cK => first | exact rfl | assumption); (case c2 => exact rfl); (case c3 => exact rfl); (case c4 => exact rfl); (case c5 => decide); k_whole; intro g' L' h' FG' F' N' B' X' T' D'; (try dsimp only); (try k_fold))
  k_steps
  all_goals exact hret _ _ _ (by k_asm)
theorem ref2_ct (w : World) (mean : ExcName → Option Value) (mg mb : Str → Option Value) (t0 t1 : Tok) :
    Ct0 w mean mg mb 127 6 [.int 0 t0, .int 18446744073709551616 t1] (PySem.Str.ofString "refused") := by
  unfold Ct0
  k_with_none
  k_fill
  intro dp un gd cn cs a ccd A₀ h₀ L m s Q E B F X N T hk hd hu hret
  refine wpAny_call ?_
  k_dflt (refine' code_defS0 ?k1 ?k2 ?k3 ?k4 ?k5 ?kA ?k6 ?k7 ?k8 ?k9 ?kB ?_ ?cK ?c2 ?c3 ?c4 ?c5; (case kA => exact rfl); (case k2 => k_asm); (case k1 => k_asm); (case k3 => k_asm); (case k4 => k_asm); (case k5 => k_asm); (case k6 => k_is); (case k7 => k_is); (case k8 => ktr_room); (case k9 => exact BindsTo.of_eq rfl); (case kB => exact locs rfl); (case cK => first | exact rfl | assumption); (case c2 => exact rfl); (case c3 => exact rfl); (case c4 => exact rfl); (case c5 => decide); k_whole; intro g' L' h' FG' F' N' B' X' T' D'; (try dsimp only); (try k_fold))
  k_steps
  all_goals exact hret _ _ _ (by k_asm)
theorem ref3_ct (w : World) (mean : ExcName → Option Value) (mg mb : Str → Option Value) (t1 : Tok) :
    Ct0 w mean mg mb 127 6 [.bool true, .int 0 t1] (PySem.Str.ofString "kind") := by
  unfold Ct0
  k_with_none
  k_fill
  intro dp un gd cn cs a ccd A₀ h₀ L m s Q E B F X N T hk hd hu hret
  refine wpAny_call ?_
  k_dflt (refine' code_defS0 ?k1 ?k2 ?k3 ?k4 ?k5 ?kA ?k6 ?k7 ?k8 ?k9 ?kB ?_ ?cK ?c2 ?c3 ?c4 ?c5; (case kA => exact rfl); (case k2 => k_asm); (case k1 => k_asm); (case k3 => k_asm); (case k4 => k_asm); (case k5 => k_asm); (case k6 => k_is); (case k7 => k_is); (case k8 => ktr_room); (case k9 => exact BindsTo.of_eq rfl); (case kB => exact locs rfl); (case cK => first | exact rfl | assumption); (case c2 => exact rfl); (case c3 => exact rfl); (case c4 => exact rfl); (case c5 => decide); k_whole; intro g' L' h' FG' F' N' B' X' T' D'; (try dsimp only); (try k_fold))
  k_steps
  all_goals exact hret _ _ _ (by k_asm)
theorem ref4_ct (w : World) (mean : ExcName → Option Value) (mg mb : Str → Option Value) (t0 t1 : Tok) :
    Ct0 w mean mg mb 127 6 [.int 0 t0, .str (PySem.Str.ofString "1") t1] (PySem.Str.ofString "kind") := by
  unfold Ct0
  k_with_none
  k_fill
  intro dp un gd cn cs a ccd A₀ h₀ L m s Q E B F X N T hk hd hu hret
  refine wpAny_call ?_
  k_dflt (refine' code_defS0 ?k1 ?k2 ?k3 ?k4 ?k5 ?kA ?k6 ?k7 ?k8 ?k9 ?kB ?_ ?cK ?c2 ?c3 ?c4 ?c5; (case kA => exact rfl); (case k2 => k_asm); (case k1 => k_asm); (case k3 => k_asm); (case k4 => k_asm); (case k5 => k_asm); (case k6 => k_is); (case k7 => k_is); (case k8 => ktr_room); (case k9 => exact BindsTo.of_eq rfl); (case kB => exact locs rfl); (case cK => first | exact rfl | assumption); (case c2 => exact rfl); (case c3 => exact rfl); (case c4 => exact rfl); (case c5 => decide); k_whole; intro g' L' h' FG' F' N' B' X' T' D'; (try dsimp only); (try k_fold))
  k_steps
  all_goals exact hret _ _ _ (by k_asm)
end Mine
end

section
open PySem PySem.W PySem.Calls PyProof.Rows
set_option maxRecDepth 100000
set_option maxHeartbeats 8000000
namespace Mine
/-! the plain law: siphash's fold is the law's sum -/
def le : List Int → Int
  | [] => 0
  | x :: r => x + 256 * le r
theorem p256 (i : Nat) : (2 : Int) ^ (8 * i) = 256 ^ i := by
  rw [Int.pow_mul]; rfl
theorem p256_pos (i : Nat) : (0 : Int) < 256 ^ i := by rw [← p256]; exact kbt_pos _
theorem or_low {p x : Int} (i : Nat) (h0 : 0 ≤ p) (h1 : p < 256 ^ i) (hx : 0 ≤ x) : Builtin.bitOr p (x * 256 ^ i) = p + x * 256 ^ i := by
  have e : (256 : Int) ^ i = ((2 ^ (8 * i) : Nat) : Int) := by rw [kbt_cast, p256]
  have hx' : x * 256 ^ i = ((x.toNat * 2 ^ (8 * i) : Nat) : Int) := by rw [Int.natCast_mul, ← e, Int.toNat_of_nonneg hx]
  have hp : p.toNat < 2 ^ (8 * i) := by rw [e] at h1; omega
  rw [hx', bitOr_and, bitAnd_pp h0 (Int.natCast_nonneg _), Int.toNat_natCast]
  have h := Nat.shiftLeft_add_eq_or_of_lt hp x.toNat
  rw [Nat.shiftLeft_eq] at h
  have h2 := or_and_nat (x.toNat * 2 ^ (8 * i)) p.toNat
  rw [← h] at h2
  rw [Nat.and_comm]
  omega
def block (v : Int × Int × Int × Int) (w : Int) : Int × Int × Int × Int :=
  let r := sround v.1 v.2.1 v.2.2.1 (Builtin.bitXor v.2.2.2 w)
  let r := sround r.1 r.2.1 r.2.2.1 r.2.2.2
  (Builtin.bitXor r.1 w, r.2.1, r.2.2.1, r.2.2.2)
theorem lrow_succ (k0 k1 : Int) (F : Array UInt8) (i : Nat) : lrow k0 k1 F (i + 1) = block (lrow k0 k1 F i) (lword F i) := rfl
abbrev st6 (v : Int × Int × Int × Int) (c p : Int) : S6 := (v.1, v.2.1, v.2.2.1, v.2.2.2, c, p)
theorem step_low {v : Int × Int × Int × Int} {j i : Nat} {p x : Int} (hi : i < 8) (hc : 8 * j + i < 255) (h0 : 0 ≤ p) (h1 : p < 256 ^ i) (hx : 0 ≤ x) :
    sstep (st6 v ((8 * j + i : Nat) : Int) p) x = if i = 7 then st6 (block v (p + x * 256 ^ i)) ((8 * j + i + 1 : Nat) : Int) 0 else st6 v ((8 * j + i + 1 : Nat) : Int) (p + x * 256 ^ i) := by
  have e1 : (((8 * j + i : Nat) : Int)).fmod 8 = (i : Int) := by
    rw [Int.fmod_eq_emod_of_nonneg _ (by decide)]; omega
  have e2 : (8 * (i : Int)).toNat = 8 * i := by omega
  have e3 : Builtin.bitAnd (((8 * j + i : Nat) : Int) + 1) 255 = ((8 * j + i + 1 : Nat) : Int) := by
    rw [bitAnd_m8]; omega
  have e4 : Builtin.bitAnd ((8 * j + i + 1 : Nat) : Int) 7 = ((8 * j + i + 1 : Nat) : Int) % 8 := bitAnd_m3 _
  have e5 := or_low i h0 h1 hx
  unfold sstep
  simp only [e1, e2, e3, e4, p256, e5]
  by_cases h7 : i = 7
  · rw [if_pos (by omega), if_pos h7]
    rfl
  · rw [if_neg (by omega), if_neg h7]
theorem fold_low {v : Int × Int × Int × Int} {j : Nat} : ∀ (l : List Int) (i : Nat) (p : Int), i + l.length ≤ 7 → 8 * j + 8 < 255 → 0 ≤ p → p < 256 ^ i → (∀ x ∈ l, 0 ≤ x ∧ x < 256) →
    l.foldl sstep (st6 v ((8 * j + i : Nat) : Int) p) = st6 v ((8 * j + i + l.length : Nat) : Int) (p + 256 ^ i * le l) ∧ 0 ≤ p + 256 ^ i * le l ∧ p + 256 ^ i * le l < 256 ^ (i + l.length)
  | [], i, p, _, _, h0, h1, _ => by
    have e : (256 : Int) ^ i * le [] = 0 := by show (256 : Int) ^ i * 0 = 0; simp
    rw [e, Int.add_zero]
    exact ⟨rfl, h0, h1⟩
  | x :: r, i, p, hl, hj, h0, h1, hx => by
    simp only [List.length_cons] at hl
    have hx0 := hx x (.head _)
    have hp := p256_pos i
    have es : (256 : Int) ^ (i + 1) = 256 ^ i * 256 := Int.pow_succ _ _
    have m1 : 0 ≤ x * 256 ^ i := Int.mul_nonneg hx0.1 (Int.le_of_lt hp)
    have m2 : x * 256 ^ i ≤ 255 * 256 ^ i := Int.mul_le_mul_of_nonneg_right (by omega) (Int.le_of_lt hp)
    have ih := fold_low (v := v) (j := j) r (i + 1) (p + x * 256 ^ i) (by omega) hj (by omega) (by rw [es]; omega) fun y hy => hx y (.tail _ hy)
    rw [List.foldl_cons, step_low (by omega) (by omega) h0 h1 hx0.1, if_neg (by omega)]
    have e : p + x * 256 ^ i + 256 ^ (i + 1) * le r = p + 256 ^ i * le (x :: r) := by
      show _ = p + 256 ^ i * (x + 256 * le r)
      rw [es, Int.mul_add, Int.mul_comm x, Int.mul_assoc]
      omega
    rw [e] at ih
    have e7 : 8 * j + (i + 1) + r.length = 8 * j + i + (x :: r).length := by simp only [List.length_cons]; omega
    have e8 : i + 1 + r.length = i + (x :: r).length := by simp only [List.length_cons]; omega
    rw [e7, e8] at ih
    exact ih
theorem le_snoc : ∀ (l : List Int) (x : Int), le (l ++ [x]) = le l + x * 256 ^ l.length
  | [], x => by simp [le]
  | a :: r, x => by
    show a + 256 * le (r ++ [x]) = a + 256 * le r + x * 256 ^ (r.length + 1)
    rw [le_snoc r x, Int.pow_succ, Int.mul_add]
    have : 256 * (x * 256 ^ r.length) = x * (256 ^ r.length * 256) := by rw [← Int.mul_assoc, Int.mul_comm 256 x, Int.mul_assoc, Int.mul_comm 256]
    omega
theorem fold_block {v : Int × Int × Int × Int} {j : Nat} {l : List Int} (hl : l.length = 8) (hj : 8 * j + 8 < 255) (hx : ∀ x ∈ l, 0 ≤ x ∧ x < 256) :
    l.foldl sstep (st6 v ((8 * j : Nat) : Int) 0) = st6 (block v (le l)) ((8 * (j + 1) : Nat) : Int) 0 := by
  have hs : l = l.take 7 ++ [l.getD 7 0] := by
    match l, hl with
    | [a, b, c, d, e, f, g, h], _ => rfl
  have h7 : (l.take 7).length = 7 := by rw [List.length_take]; omega
  have hb := fold_low (v := v) (j := j) (l.take 7) 0 0 (by omega) hj (by decide) (by decide) fun x hm => hx x (List.mem_of_mem_take hm)
  have hm7 : l.getD 7 0 ∈ l := by
    match l, hl with
    | [a, b, c, d, e, f, g, h], _ => simp
  have hg : 0 ≤ l.getD 7 0 ∧ l.getD 7 0 < 256 := hx _ hm7
  rw [h7] at hb
  have ep : (0 : Int) + 256 ^ 0 * le (l.take 7) = le (l.take 7) := by simp
  rw [ep] at hb
  have e0 : 8 * j + 0 = 8 * j := rfl
  have h8 := step_low (v := v) (j := j) (i := 7) (p := le (l.take 7)) (x := l.getD 7 0) (by decide) (by omega) hb.2.1 hb.2.2 hg.1
  rw [if_pos rfl] at h8
  have el : le l = le (l.take 7) + l.getD 7 0 * 256 ^ 7 := by
    have := le_snoc (l.take 7) (l.getD 7 0)
    rw [← hs, h7] at this
    exact this
  have hf : l.foldl sstep (st6 v ((8 * j : Nat) : Int) 0) = sstep ((l.take 7).foldl sstep (st6 v ((8 * j + 0 : Nat) : Int) 0)) (l.getD 7 0) := by
    conv => lhs; rw [hs]
    rw [List.foldl_append]
    rfl
  rw [hf, hb.1, el]
  exact h8
theorem le8 : ∀ l : List Int, l.length ≤ 8 → le l = l.getD 0 0 + l.getD 1 0 * 256 + l.getD 2 0 * 65536 + l.getD 3 0 * 16777216 + l.getD 4 0 * 4294967296 + l.getD 5 0 * 1099511627776 + l.getD 6 0 * 281474976710656 + l.getD 7 0 * 72057594037927936
  | [], _ => by simp [le]
  | [a], _ => by simp [le]
  | [a, b], _ => by simp [le]; omega
  | [a, b, c], _ => by simp [le]; omega
  | [a, b, c, d], _ => by simp [le]; omega
  | [a, b, c, d, e], _ => by simp [le]; omega
  | [a, b, c, d, e, f], _ => by simp [le]; omega
  | [a, b, c, d, e, f, g], _ => by simp [le]; omega
  | [a, b, c, d, e, f, g, h], _ => by simp [le]; omega
  | _ :: _ :: _ :: _ :: _ :: _ :: _ :: _ :: _ :: _, h => by simp only [List.length_cons] at h; omega
theorem bInts_fill (b : Array UInt8) : KBw.bInts (fillArr b) = KBw.bInts b ++ List.replicate (7 - (b.size : Int).fmod 8).toNat 0 ++ [((((b.size : Int).fmod 256).toNat.toUInt8).toNat : Int)] := by
  unfold fillArr KBw.bInts
  simp
theorem byteAt_fill {b : Array UInt8} {i : Nat} (hi : i < 8 * (b.size / 8) + 7) : byteAt (fillArr b) i = (KBw.bInts b).getD i 0 := by
  unfold byteAt
  rw [bInts_fill]
  have hr : (7 - (b.size : Int).fmod 8).toNat = 7 - b.size % 8 := by rw [Int.fmod_eq_emod_of_nonneg _ (by decide)]; omega
  rw [hr]
  have hl := KBw.ints_length b
  simp only [List.getD_eq_getElem?_getD]
  by_cases h : i < b.size
  · rw [List.append_assoc, List.getElem?_append_left (by omega)]
  · rw [List.getElem?_append_left (by rw [List.length_append, List.length_replicate, hl]; omega), List.getElem?_append_right (by omega), List.getElem?_eq_none (l := KBw.bInts b) (by omega)]
    rw [List.getElem?_replicate]
    split <;> rfl
theorem byteAt_last {b : Array UInt8} (hb : b.size ≤ 16) : byteAt (fillArr b) (8 * (b.size / 8) + 7) = (b.size : Int) := by
  unfold byteAt
  rw [bInts_fill]
  have hr : (7 - (b.size : Int).fmod 8).toNat = 7 - b.size % 8 := by rw [Int.fmod_eq_emod_of_nonneg _ (by decide)]; omega
  have hn : ((b.size : Int).fmod 256).toNat = b.size := by rw [Int.fmod_eq_emod_of_nonneg _ (by decide)]; omega
  rw [hr, hn]
  have hl := KBw.ints_length b
  simp only [List.getD_eq_getElem?_getD]
  rw [List.getElem?_append_right (by rw [List.length_append, List.length_replicate, hl]; omega)]
  have e : 8 * (b.size / 8) + 7 - (KBw.bInts b ++ List.replicate (7 - b.size % 8) (0 : Int)).length = 0 := by rw [List.length_append, List.length_replicate, hl]; omega
  rw [e]
  show ((b.size.toUInt8).toNat : Int) = (b.size : Int)
  have : b.size.toUInt8.toNat = b.size := by
    show (UInt8.ofNat b.size).toNat = b.size
    rw [UInt8.toNat_ofNat']
    exact Nat.mod_eq_of_lt (by omega)
  rw [this]
theorem getD_drop (l : List Int) (a k : Nat) : (l.drop a).getD k 0 = l.getD (a + k) 0 := by
  simp only [List.getD_eq_getElem?_getD, List.getElem?_drop]
theorem getD_take {l : List Int} {a k : Nat} (h : k < a) : (l.take a).getD k 0 = l.getD k 0 := by
  simp only [List.getD_eq_getElem?_getD, List.getElem?_take, if_pos h]
theorem blocks (k0 k1 : Int) (b : Array UInt8) (hb : b.size ≤ 16) : ∀ j : Nat, j ≤ b.size / 8 →
    ((KBw.bInts b).take (8 * j)).foldl sstep (sinit k0 k1) = st6 (lrow k0 k1 (fillArr b) j) ((8 * j : Nat) : Int) 0
  | 0, _ => rfl
  | j + 1, h => by
    have ih := blocks k0 k1 b hb j (by omega)
    have hl := KBw.ints_length b
    have e : (KBw.bInts b).take (8 * (j + 1)) = (KBw.bInts b).take (8 * j) ++ ((KBw.bInts b).drop (8 * j)).take 8 := by
      rw [show 8 * (j + 1) = 8 * j + 8 by omega, List.take_add]
    have h8 : (((KBw.bInts b).drop (8 * j)).take 8).length = 8 := by rw [List.length_take, List.length_drop]; omega
    have hx : ∀ x ∈ ((KBw.bInts b).drop (8 * j)).take 8, 0 ≤ x ∧ x < 256 := fun x hm => KBw.ints_in (List.mem_of_mem_drop (List.mem_of_mem_take hm))
    rw [e, List.foldl_append, ih, fold_block h8 (by omega) hx, lrow_succ]
    have hw : le (((KBw.bInts b).drop (8 * j)).take 8) = lword (fillArr b) j := by
      rw [le8 _ (by omega)]
      unfold lword
      have g : ∀ k, k < 8 → (((KBw.bInts b).drop (8 * j)).take 8).getD k 0 = byteAt (fillArr b) (8 * j + k) := fun k hk => by
        rw [getD_take hk, getD_drop, byteAt_fill (by omega)]
      rw [g 0 (by decide), g 1 (by decide), g 2 (by decide), g 3 (by decide), g 4 (by decide), g 5 (by decide), g 6 (by decide), g 7 (by decide)]
      rfl
    rw [hw]
theorem sip_eq {k0 k1 : Int} {b : Array UInt8} (hb : b.size ≤ 16) : sipSum k0 k1 (KBw.bInts b) = lawSum k0 k1 b := by
  have hl := KBw.ints_length b
  have hm := blocks k0 k1 b hb (b.size / 8) (Nat.le_refl _)
  have hr : ((KBw.bInts b).drop (8 * (b.size / 8))).length = b.size % 8 := by rw [List.length_drop]; omega
  have hx : ∀ x ∈ (KBw.bInts b).drop (8 * (b.size / 8)), 0 ≤ x ∧ x < 256 := fun x hm => KBw.ints_in (List.mem_of_mem_drop hm)
  have hf := fold_low (v := lrow k0 k1 (fillArr b) (b.size / 8)) (j := b.size / 8) ((KBw.bInts b).drop (8 * (b.size / 8))) 0 0 (by omega) (by omega) (by decide) (by decide) hx
  have ep : (0 : Int) + 256 ^ 0 * le ((KBw.bInts b).drop (8 * (b.size / 8))) = le ((KBw.bInts b).drop (8 * (b.size / 8))) := by simp
  rw [ep, hr] at hf
  have hs : (KBw.bInts b).foldl sstep (sinit k0 k1) = st6 (lrow k0 k1 (fillArr b) (b.size / 8)) ((b.size : Nat) : Int) (le ((KBw.bInts b).drop (8 * (b.size / 8)))) := by
    conv => lhs; rw [← List.take_append_drop (8 * (b.size / 8)) (KBw.bInts b)]
    rw [List.foldl_append, hm]
    have e1 : 8 * (b.size / 8) + 0 + b.size % 8 = b.size := by omega
    rw [e1] at hf
    exact hf.1
  have hp : Builtin.bitOr (le ((KBw.bInts b).drop (8 * (b.size / 8)))) ((b.size : Int) * 2 ^ Int.toNat 56) = lword (fillArr b) (b.size / 8) := by
    have e2 : (2 : Int) ^ Int.toNat 56 = 256 ^ 7 := by decide
    have h7 : (256 : Int) ^ (0 + b.size % 8) ≤ 256 ^ 7 := by
      rw [← p256, ← p256, ← kbt_cast, ← kbt_cast]
      have := Nat.pow_le_pow_right (n := 2) (by decide) (show 8 * (0 + b.size % 8) ≤ 8 * 7 by omega)
      omega
    rw [e2, or_low 7 hf.2.1 (by omega) (by omega), le8 _ (by omega)]
    unfold lword
    have g : ∀ k, k < 7 → ((KBw.bInts b).drop (8 * (b.size / 8))).getD k 0 = byteAt (fillArr b) (8 * (b.size / 8) + k) := fun k hk => by
      rw [getD_drop, byteAt_fill (by omega)]
    have g7 : ((KBw.bInts b).drop (8 * (b.size / 8))).getD 7 0 = 0 := by
      rw [List.getD_eq_getElem?_getD, List.getElem?_eq_none (by omega)]; rfl
    rw [g 0 (by decide), g 1 (by decide), g 2 (by decide), g 3 (by decide), g 4 (by decide), g 5 (by decide), g 6 (by decide), g7, byteAt_last hb]
    simp
  unfold sipSum lawSum
  rw [hs, lrow_succ]
  simp only [hp, block]
end Mine
end

section
open PySem PySem.W PySem.Calls PyProof.Rows
set_option maxRecDepth 100000
set_option maxHeartbeats 8000000
namespace Mine
theorem le_line {b : Array UInt8} (h : b.size ≤ 16) : b.size ≤ sizeLine := by rw [sizeLine_eq]; omega
theorem gives_bytes (w : World) (mean : ExcName → Option Value) (mg mb : Str → Option Value) (b : Array UInt8) (t : Tok) : Gives w mean mg mb (.bytes b t) b := fun news => oct_ct w mean mg mb news b t
theorem gives_hex (w : World) (mean : ExcName → Option Value) (mg mb : Str → Option Value) (b : Array UInt8) (t : Tok) (hz : b.size ≤ sizeLine) : Gives w mean mg mb (.str (hexStr b) t) b := fun news => octs_ct w mean mg mb news b t hz
theorem sipL_ct (w : World) (mean : ExcName → Option Value) (mg mb : Str → Option Value) (news : Led) (k0 k1 : Int) (t0 t1 : Tok) (v : Value) (b : Array UInt8) (hv : Gives w mean mg mb v b) (hk0 : W k0) (hk1 : W k1) (hz : b.size ≤ 16) :
    Ct w mean mg mb 101 4 news [.int k0 t0, .int k1 t1, v] (BInt news (lawSum k0 k1 b)) := by
  rw [← sip_eq hz]
  exact sip_ct w mean mg mb news k0 k1 t0 t1 v b hv hk0 hk1
def JW (h₀ : Heap) (L : Addr) (m : Str → Option Value) (news : Led) (s : Shared) (v : Value) (s' : Shared) : Prop :=
  ∃ x t h' tk', v = .int x t ∧ W x ∧ Fr h₀ L h' m ∧ News h₀ L h' news ∧ s' = { s with heap := h', toks := tk' }
theorem join_W {M : Model} {A : Around} {E : Value → Shared → Prop} {s : Shared} {tree : Sem Value} {Q : Value → Shared → Prop} {h₀ : Heap} {L : Addr} {m : Str → Option Value} {news : Led}
    (_F : Fr h₀ L s.heap m) (_N : News h₀ L s.heap news) (h1 : wpAny M A tree (JW h₀ L m news s) E s)
    (h2 : ∀ x t h' tk', W x → Fr h₀ L h' m → News h₀ L h' news → Q (.int x t) { s with heap := h', toks := tk' }) : wpAny M A tree Q E s :=
  wpAny_mono h1 (fun v s' ⟨x, t, h', tk', e, hw, F', N', es⟩ => by subst e; subst es; exact h2 x t h' tk' hw F' N') fun _ _ z => z
theorem newsNil {h₀ h : Heap} {L : Addr} {m : Str → Option Value} (_F : Fr h₀ L h m) : News h₀ L h [] := fun _ hp => nomatch hp
theorem ref2x_ct (w : World) (mean : ExcName → Option Value) (mg mb : Str → Option Value) (t0 t1 : Tok) (x : Int) (hx : x = 18446744073709551616) :
    Ct0 w mean mg mb 127 6 [.int 0 t0, .int x t1] (PySem.Str.ofString "refused") := by
  subst hx
  exact ref2_ct w mean mg mb t0 t1
theorem W.top : W (2 ^ Int.toNat 64 - 1) := ⟨by decide, by decide⟩
theorem store_octets {M : Model} {A : Around} {E : Value → Shared → Prop} {s : Shared} {env : Env} {x : PySem.Str} {t : Tok} {Q : Unit → Shared → Prop} {l : List Int}
    (hl : l.length ≤ 16) (h : ∀ b : Array UInt8, b.size ≤ 16 → wpAny M A (storeName env x (.bytes b t)) Q E s) : wpAny M A (storeName env x (.bytes (byteArr l) t)) Q E s :=
  h _ (by rw [byteArr_size]; exact hl)
local macro_rules | `(tactic| walk_at "storeName") => `(tactic| (
  k_here
  (with_reducible show wpAny _ _ (storeName _ _ (Value.bytes (byteArr _) _)) _ _ _)
  refine' store_octets ?sol ?_
  (case sol => (simp only [List.length_map, List.length_drop, List.length_take]; omega))
  intro b9 hb9))
local macro_rules | `(tactic| walk_at "eval IfExp") => `(tactic| (
  k_here
  (fail_if_success (with_reducible show wpAny _ _ _ (JW _ _ _ _ _) _ _))
  k_dflt (refine' join_W ?jF ?jN ?_ (fun jx jt jh jtk jW jF' jN' => ?_))
  (case jF => k_asm)
  (case jN => k_asm)))
local macro_rules | `(tactic| walk_at "JW") => `(tactic| (
  refine' ⟨_, _, _, _, rfl, ?jw, ?jf, ?jn, rfl⟩
  (case jw => with_reducible (first | exact W.fmod _ | exact W.top | exact W.lit))
  (case jf => k_asm)
  (case jn => k_asm)))
local macro_rules | `(tactic| walk_at "call ref") => `(tactic| (
  k_here
  (with_reducible show wpAny _ _ (PySem.call (Value.ref 120) _ _) _ _ _)
  k_dflt (refine' Ct.use (lsum_ct _ _ _ _ _ _ _ _ _ _ ?h1 ?h2 ?hb) ?k1 ?k2 ?k3 ?k4 ?k5 ?kK ?kd ?ku ?_)
  (case k1 => k_asm)
  (case k2 => k_asm)
  (case k3 => k_asm)
  (case k4 => k_dflt (exact fun _ hp => nomatch hp))
  (case k5 => k_asm)
  (case kK => first | exact rfl | assumption)
  (case kd => ktr_room)
  (case ku => ktr_units)
  (case hb => omega)
  (case h1 => repeat (with_reducible first | assumption | exact W.and _ | exact W.rotl _ _ | refine W.xor ?_ ?_ | exact W.pend _ (by assumption) (by assumption) (by assumption) | exact W.last (by assumption) (by assumption) (by assumption) | exact W.lit))
  (case h2 => repeat (with_reducible first | assumption | exact W.and _ | exact W.rotl _ _ | refine W.xor ?_ ?_ | exact W.pend _ (by assumption) (by assumption) (by assumption) | exact W.last (by assumption) (by assumption) (by assumption) | exact W.lit))
  k_dflt (intro t9 h9 tk9 F9 N9)
  (try dsimp only)
  (try k_fold)))
local macro_rules | `(tactic| walk_at "call ref") => `(tactic| (
  k_here
  (with_reducible show wpAny _ _ (PySem.call (Value.ref 101) _ _) _ _ _)
  k_dflt (refine' Ct.use (sipL_ct _ _ _ _ _ _ _ _ _ _ _ ?hv ?h1 ?h2 ?hz) ?k1 ?k2 ?k3 ?k4 ?k5 ?kK ?kd ?ku ?_)
  (case k1 => k_asm)
  (case k2 => k_asm)
  (case k3 => k_asm)
  (case k4 => k_asm)
  (case k5 => k_asm)
  (case kK => first | exact rfl | assumption)
  (case kd => ktr_room)
  (case ku => ktr_units)
  (case hv => k_dflt first | exact gives_bytes _ _ _ _ _ _ | refine gives_hex _ _ _ _ _ _ (le_line (by assumption)))
  (case h1 => repeat (with_reducible first | assumption | exact W.and _ | exact W.rotl _ _ | refine W.xor ?_ ?_ | exact W.pend _ (by assumption) (by assumption) (by assumption) | exact W.last (by assumption) (by assumption) (by assumption) | exact W.lit))
  (case h2 => repeat (with_reducible first | assumption | exact W.and _ | exact W.rotl _ _ | refine W.xor ?_ ?_ | exact W.pend _ (by assumption) (by assumption) (by assumption) | exact W.last (by assumption) (by assumption) (by assumption) | exact W.lit))
  (case hz => omega)
  k_dflt (intro t9 h9 tk9 F9 N9)
  (try dsimp only)
  (try k_fold)))
local macro_rules | `(tactic| walk_at "getMethod bytes") => `(tactic| (k_here; (with_reducible refine getm_hex ?_)))
local macro_rules | `(tactic| walk_at "call builtin:bytes.hex") => `(tactic| (
  k_here
  refine' call_hex ?hz ?_
  (case hz => (rw [sizeLine_eq]; omega))))
local macro_rules | `(tactic| walk_at "call ref") => `(tactic| (
  k_here
  (with_reducible show wpAny _ _ (PySem.call (Value.ref 127) [Value.int (-1) _, Value.int _ _] _) _ _ _)
  k_dflt (refine' Ct0.use (ref1_ct _ _ _ _ _ _) ?k1 ?k2 ?k3 ?k4 ?k5 ?kK ?kd ?ku ?_)
  (case k1 => k_asm)
  (case k2 => k_asm)
  (case k3 => k_asm)
  (case k4 => k_dflt (exact fun _ hp => nomatch hp))
  (case k5 => k_asm)
  (case kK => first | exact rfl | assumption)
  (case kd => ktr_room)
  (case ku => ktr_units)
  k_dflt (intro t9 h9 tk9 F9)
  (have N9 := newsNil F9)
  (try dsimp only)
  (try k_fold)))
local macro_rules | `(tactic| walk_at "call ref") => `(tactic| (
  k_here
  (with_reducible show wpAny _ _ (PySem.call (Value.ref 127) [Value.int 0 _, Value.int (_ ^ _) _] _) _ _ _)
  k_dflt (refine' Ct0.use (ref2x_ct _ _ _ _ _ _ _ ?hx) ?k1 ?k2 ?k3 ?k4 ?k5 ?kK ?kd ?ku ?_)
  (case k1 => k_asm)
  (case k2 => k_asm)
  (case k3 => k_asm)
  (case k4 => k_dflt (exact fun _ hp => nomatch hp))
  (case k5 => k_asm)
  (case kK => first | exact rfl | assumption)
  (case kd => ktr_room)
  (case ku => ktr_units)
  (case hx => decide)
  k_dflt (intro t9 h9 tk9 F9)
  (have N9 := newsNil F9)
  (try dsimp only)
  (try k_fold)))
local macro_rules | `(tactic| walk_at "call ref") => `(tactic| (
  k_here
  (with_reducible show wpAny _ _ (PySem.call (Value.ref 127) [Value.bool true, Value.int 0 _] _) _ _ _)
  k_dflt (refine' Ct0.use (ref3_ct _ _ _ _ _) ?k1 ?k2 ?k3 ?k4 ?k5 ?kK ?kd ?ku ?_)
  (case k1 => k_asm)
  (case k2 => k_asm)
  (case k3 => k_asm)
  (case k4 => k_dflt (exact fun _ hp => nomatch hp))
  (case k5 => k_asm)
  (case kK => first | exact rfl | assumption)
  (case kd => ktr_room)
  (case ku => ktr_units)
  k_dflt (intro t9 h9 tk9 F9)
  (have N9 := newsNil F9)
  (try dsimp only)
  (try k_fold)))
local macro_rules | `(tactic| walk_at "call ref") => `(tactic| (
  k_here
  (with_reducible show wpAny _ _ (PySem.call (Value.ref 127) [Value.int 0 _, Value.str _ _] _) _ _ _)
  k_dflt (refine' Ct0.use (ref4_ct _ _ _ _ _ _) ?k1 ?k2 ?k3 ?k4 ?k5 ?kK ?kd ?ku ?_)
  (case k1 => k_asm)
  (case k2 => k_asm)
  (case k3 => k_asm)
  (case k4 => k_dflt (exact fun _ hp => nomatch hp))
  (case k5 => k_asm)
  (case kK => first | exact rfl | assumption)
  (case kd => ktr_room)
  (case ku => ktr_units)
  k_dflt (intro t9 h9 tk9 F9)
  (have N9 := newsNil F9)
  (try dsimp only)
  (try k_fold)))
theorem walk_end : PySem.Challenge.rw_ez0007_01.Holds := by
  k_with_none
  refine Mine.hd ?_
  w_strict (k_go0; (all_goals try k_fold); k_steps)
end Mine
end
open PySem PySem.W PyProof.Rows
set_option maxRecDepth 100000 in
set_option maxHeartbeats 8000000 in
theorem PySem.Challenge.cw_ez0007_01_holds : PySem.Challenge.rw_ez0007_01.Holds := by
  exact Mine.walk_end
