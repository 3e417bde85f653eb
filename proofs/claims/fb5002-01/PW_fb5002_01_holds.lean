import PyProof.Rows.All
import Wide.All
import OpenK.AllK
import Wide.FinOn
import Lean
import PySem.Challenge.RW_fb5002_01
set_option Elab.async false
section
open PySem PySem.W PyProof.Rows PySem.Calls
set_option Elab.async false
set_option maxRecDepth 100000
namespace Mine
section
variable {prog : Program} {w : World} {A : Around} {E : Value → Shared → Prop} {s : Shared}
theorem each_H {M : Model} {v : Int} {u : Tok} {Q : Array UInt8 → Shared → Prop} (h0 : 0 ≤ v) (h1 : v < 65536) (init : Array UInt8) (put : Array UInt8 → Nat → Array UInt8 → Sem (Array UInt8)) 
  (h : wpAny M A (put init 0 (Builtin.Struct.intBytes true 2 v)) Q E s) :
  wpAny M A (Builtin.Struct.packEach "_struct.pack" ⟨true, false, [⟨'H', 1, 0, 2⟩], 2, 1⟩ [.int v u] init put) Q E s := by
  unfold Builtin.Struct.packEach
  simp only [List.forIn_cons, List.forIn_nil, Std.Legacy.Range.forIn_eq_forIn_range']
  rw [if_neg (by decide), if_neg (by decide)]
  rw [show List.range' 0 ([:1] : Std.Legacy.Range).size = [0] from rfl]
  simp only [List.forIn_cons, List.forIn_nil, pure_bind, bind_assoc]
  refine wpAny_bind (wpAny_of_eq (a := Builtin.Struct.intBytes true 2 v) ?_ ?_)
  · show (if ((decide (v < 0) || decide (v > 65535)) = true) then _ else _) = _
    refine (if_neg ?_).trans rfl
    simp only [Bool.or_eq_true, decide_eq_true_eq]; omega
  · refine wpAny_bind (wpAny_mono h (fun r s' hr => ?_) fun _ _ e => e)
    exact wpAny_pure hr
end
end Mine
end
section
open PySem PySem.W PyProof.Rows PySem.Calls
set_option Elab.async false
set_option maxRecDepth 100000
namespace Mine
section
variable {prog : Program} {w : World} {A : Around} {E : Value → Shared → Prop} {s : Shared}
theorem entry_pack : entryFor table "_struct.pack" = some Builtin.«_struct.pack» := entryFor_of_tree (by kernel_rfl)
theorem kind_pack : builtinKind "_struct.pack" = none := by kernel_rfl
theorem plain_pack : plainId "_struct.pack" = true := by decide +kernel
theorem args_pack (a b : Value) : argsOk "_struct.pack" ⟨[a, b], []⟩ := by unfold argsOk; kernel_rfl
theorem entry_unpack : entryFor table "_struct.unpack" = some Builtin.«_struct.unpack» := entryFor_of_tree (by kernel_rfl)
theorem kind_unpack : builtinKind "_struct.unpack" = none := by kernel_rfl
theorem plain_unpack : plainId "_struct.unpack" = true := by decide +kernel
theorem args_unpack (a b : Value) : argsOk "_struct.unpack" ⟨[a, b], []⟩ := by unfold argsOk; kernel_rfl
theorem fmt_H (t : Tok) : Builtin.Struct.moduleFormat (.str (PySem.Str.ofString "!H") t) = pure ⟨true, false, [⟨'H', 1, 0, 2⟩], 2, 1⟩ := by kernel_rfl
theorem fmt_H2 (t : Tok) : Builtin.Struct.moduleFormat (.str (PySem.Str.ofString ">H") t) = pure ⟨true, false, [⟨'H', 1, 0, 2⟩], 2, 1⟩ := by kernel_rfl
theorem fmt_L (t : Tok) : Builtin.Struct.moduleFormat (.str (PySem.Str.ofString "!L") t) = pure ⟨true, false, [⟨'L', 1, 0, 4⟩], 4, 1⟩ := by kernel_rfl

theorem intBytes_H {v : Int} (h0 : 0 ≤ v) (h1 : v < 65536) : Builtin.Struct.intBytes true 2 v = byteArr [v / 256, v % 256] := by
  have e : (v % 2 ^ (8 * 2)).toNat = v.toNat := by
    rw [show ((2 : Int) ^ (8 * 2)) = 65536 from rfl]; omega
  show (Builtin.Memoryview.toLittleEndian 2 (v % 2 ^ (8 * 2)).toNat).reverse = _
  rw [e]
  show (#[(v.toNat / 256 ^ 0 % 256).toUInt8, (v.toNat / 256 ^ 1 % 256).toUInt8] : Array UInt8).reverse = #[(v / 256).toNat.toUInt8, (v % 256).toNat.toUInt8]
  have a : v.toNat / 256 ^ 0 % 256 = (v % 256).toNat := by simp; omega
  have b : v.toNat / 256 ^ 1 % 256 = (v / 256).toNat := by simp; omega
  rw [a, b]; simp

theorem pack_H {v : Int} {t u : Tok} {Q : Value → Shared → Prop} (h0 : 0 ≤ v) (h1 : v < 65536)
   (hQ : ∀ t' k, Q (.bytes (byteArr [v / 256, v % 256]) t') { s with toks := k }) :
   wpAny (model prog w) A (call (.builtin "_struct.pack") [.str (PySem.Str.ofString "!H") t, .int v u]) Q E s := by
  refine call_function_entry kind_pack plain_pack entry_pack (args_pack _ _) ?_
  unfold Builtin.«_struct.pack»
  refine wpAny_bind (wpAny_of_eq (a := ()) rfl ?_)
  dsimp only
  refine wpAny_bind (wpAny_of_eq (fmt_H t) ?_)
  unfold Builtin.Struct.packed
  refine bm_if_false rfl ?_
  refine bm_if_false rfl ?_
  refine wpAny_bind (each_H h0 h1 _ _ ?_)
  rw [intBytes_H h0 h1]
  refine wpAny_pure ?_
  show wpAny _ _ (mkBytes (byteArr [v / 256, v % 256]) >>= _) _ _ _
  refine wpAny_bind (wpAny_mkBytes (wpAny_pure ⟨_, rfl, hQ _ _⟩) (by rw [byteArr_size]; exact (by decide : 2 ≤ sizeLine)))
end
end Mine
end
section
open PySem PySem.W PyProof.Rows PySem.Calls
set_option Elab.async false
set_option maxRecDepth 100000
namespace Mine
section
variable {prog : Program} {w : World} {A : Around} {E : Value → Shared → Prop} {s : Shared} {h₀ : Heap} {L : Addr} {m : PySem.Str → Option Value} {news : List (Addr × Obj)}
abbrev tupO (vs : List Value) : Obj := { cls := .type "tuple", data := .seq vs.toArray }
theorem bytes2 {b : Array UInt8} {x y : Int} (h : KBw.bInts b = [x, y]) : ∃ p q : UInt8, b = #[p, q] ∧ x = p.toNat ∧ y = q.toNat := by
  obtain ⟨l⟩ := b
  match l, h with
  | [p, q], h =>
    simp [KBw.bInts] at h
    exact ⟨p, q, rfl, h.1.symm, h.2.symm⟩
theorem bytes4 {b : Array UInt8} {x y z u : Int} (h : KBw.bInts b = [x, y, z, u]) : ∃ p q r t : UInt8, b = #[p, q, r, t] ∧ x = p.toNat ∧ y = q.toNat ∧ z = r.toNat ∧ u = t.toNat := by
  obtain ⟨l⟩ := b
  match l, h with
  | [p, q, r, t], h =>
    simp [KBw.bInts] at h
    exact ⟨p, q, r, t, rfl, h.1.symm, h.2.1.symm, h.2.2.1.symm, h.2.2.2.symm⟩

theorem unpacked_H {M : Model} {b : Array UInt8} {x y : Int} {id : String} {Q : Value → Shared → Prop} (hk : KBw.bInts b = [x, y])
   (h : wpAny M A (newTuple [.int (x * 256 + y) s.toks]) Q E { s with toks := s.toks + 1 }) :
   wpAny M A (Builtin.Struct.unpacked id ⟨true, false, [⟨'H', 1, 0, 2⟩], 2, 1⟩ b 0) Q E s := by
  obtain ⟨p, q, rfl, rfl, rfl⟩ := bytes2 hk
  unfold Builtin.Struct.unpacked
  simp only [List.forIn_cons, List.forIn_nil, Std.Legacy.Range.forIn_eq_forIn_range']
  rw [if_neg (by decide)]
  rw [show List.range' 0 ([:1] : Std.Legacy.Range).size = [0] from rfl]
  simp only [List.forIn_cons, List.forIn_nil, pure_bind, bind_assoc]
  have e : Builtin.Struct.natOf true (#[p, q].extract (0 + 0 + 0 * 2) (0 + 0 + (0 + 1) * 2)) = p.toNat * 256 + q.toNat := by
    simp [Builtin.Struct.natOf, Builtin.Memoryview.littleEndian]
  rw [e]
  show wpAny M A (mkInt ((p.toNat * 256 + q.toNat : Nat) : Int) >>= fun v => newTuple [v]) Q E s
  have e2 : ((p.toNat * 256 + q.toNat : Nat) : Int) = (p.toNat : Int) * 256 + (q.toNat : Int) := by omega
  rw [e2]
  exact wpAny_bind (wpAny_mkInt h)
theorem unpacked_L {M : Model} {b : Array UInt8} {x y z u : Int} {id : String} {Q : Value → Shared → Prop} (hk : KBw.bInts b = [x, y, z, u])
   (h : wpAny M A (newTuple [.int (x * 16777216 + y * 65536 + z * 256 + u) s.toks]) Q E { s with toks := s.toks + 1 }) :
   wpAny M A (Builtin.Struct.unpacked id ⟨true, false, [⟨'L', 1, 0, 4⟩], 4, 1⟩ b 0) Q E s := by
  obtain ⟨p, q, r, t, rfl, rfl, rfl, rfl, rfl⟩ := bytes4 hk
  unfold Builtin.Struct.unpacked
  simp only [List.forIn_cons, List.forIn_nil, Std.Legacy.Range.forIn_eq_forIn_range']
  rw [if_neg (by decide)]
  rw [show List.range' 0 ([:1] : Std.Legacy.Range).size = [0] from rfl]
  simp only [List.forIn_cons, List.forIn_nil, pure_bind, bind_assoc]
  have e : Builtin.Struct.natOf true (#[p, q, r, t].extract (0 + 0 + 0 * 4) (0 + 0 + (0 + 1) * 4)) = p.toNat * 16777216 + q.toNat * 65536 + r.toNat * 256 + t.toNat := by
    simp [Builtin.Struct.natOf, Builtin.Memoryview.littleEndian]; omega
  rw [e]
  show wpAny M A (mkInt ((p.toNat * 16777216 + q.toNat * 65536 + r.toNat * 256 + t.toNat : Nat) : Int) >>= fun v => newTuple [v]) Q E s
  have e2 : ((p.toNat * 16777216 + q.toNat * 65536 + r.toNat * 256 + t.toNat : Nat) : Int) = (p.toNat : Int) * 16777216 + (q.toNat : Int) * 65536 + (r.toNat : Int) * 256 + (t.toNat : Int) := by omega
  rw [e2]
  exact wpAny_bind (wpAny_mkInt h)
theorem like_bytes {id : String} {b : Array UInt8} {t : Tok} : Builtin.Bytes.bytesLike id (.bytes b t) = pure b := by
  unfold Builtin.Bytes.bytesLike
  rw [KBy.buffer_eq]
  rfl
theorem unpack_gen {f : Builtin.Struct.Format} {x : PySem.Str} {b : Array UInt8} {t u : Tok} {Q : Value → Shared → Prop} (hf : Builtin.Struct.moduleFormat (.str x t) = pure f) (hs : b.size = f.size)
   (h : wpAny (model prog w) A.in1 (Builtin.Struct.unpacked "_struct.unpack" f b 0) Q E s) :
   wpAny (model prog w) A (call (.builtin "_struct.unpack") [.str x t, .bytes b u]) Q E s := by
  refine call_function_entry kind_unpack plain_unpack entry_unpack (args_unpack _ _) ?_
  unfold Builtin.«_struct.unpack»
  refine wpAny_bind (wpAny_of_eq (a := ()) rfl ?_)
  refine wpAny_bind (wpAny_of_eq (a := ()) rfl ?_)
  refine wpAny_bind (wpAny_of_eq (a := f) hf ?_)
  unfold Builtin.Struct.unpackExact
  refine wpAny_bind (wpAny_of_eq (a := b) like_bytes ?_)
  refine wpAny_bind (wpAny_of_eq (a := f) rfl ?_)
  refine bm_if_false (by rw [hs]; simp) ?_
  refine wpAny_bind (wpAny_mono h (fun r s' hr => ?_) fun _ _ e => e)
  exact wpAny_pure ⟨_, rfl, hr⟩
theorem unpack_H {x : PySem.Str} (hx : x = PySem.Str.ofString "!H" ∨ x = PySem.Str.ofString ">H") {b : Array UInt8} {p q : Int} {t u : Tok} {Q : Value → Shared → Prop} (F : Fr h₀ L s.heap m) (N : News h₀ L s.heap news) (hk : KBw.bInts b = [p, q])
   (h : ∀ D t' h' k, Fr h₀ L h' m → News h₀ L h' ((D, tupO [.int (p * 256 + q) t']) :: news) → (∀ p ∈ news, p.1 < D) → Q (.ref D) { s with heap := h', toks := k }) :
   wpAny (model prog w) A (call (.builtin "_struct.unpack") [.str x t, .bytes b u]) Q E s := by
  refine unpack_gen (f := ⟨true, false, [⟨'H', 1, 0, 2⟩], 2, 1⟩) (by rcases hx with rfl | rfl; exact fmt_H t; exact fmt_H2 t) ?_ ?_
  · rw [← KBw.ints_length, hk]; rfl
  · exact unpacked_H hk (kup_newTuple (s := { s with toks := s.toks + 1 }) F N (fun D h' F' N' l => h D _ h' _ F' N' l) (show 1 ≤ sizeLine by decide))
theorem unpack_L {b : Array UInt8} {p q r z : Int} {t u : Tok} {Q : Value → Shared → Prop} (F : Fr h₀ L s.heap m) (N : News h₀ L s.heap news) (hk : KBw.bInts b = [p, q, r, z])
   (h : ∀ D t' h' k, Fr h₀ L h' m → News h₀ L h' ((D, tupO [.int (p * 16777216 + q * 65536 + r * 256 + z) t']) :: news) → (∀ p ∈ news, p.1 < D) → Q (.ref D) { s with heap := h', toks := k }) :
   wpAny (model prog w) A (call (.builtin "_struct.unpack") [.str (PySem.Str.ofString "!L") t, .bytes b u]) Q E s := by
  refine unpack_gen (f := ⟨true, false, [⟨'L', 1, 0, 4⟩], 4, 1⟩) (fmt_L t) ?_ ?_
  · rw [← KBw.ints_length, hk]; rfl
  · exact unpacked_L hk (kup_newTuple (s := { s with toks := s.toks + 1 }) F N (fun D h' F' N' l => h D _ h' _ F' N' l) (show 1 ≤ sizeLine by decide))
end
end Mine
end
section
open PySem PySem.W PyProof.Rows PySem.Calls
open Sem (wp)
set_option Elab.async false
set_option maxRecDepth 100000
namespace Mine

def decFree : Code → Bool
  | .builtin id _ => !(Builtin.Bytes.decodersThatHold.contains id || ["bytearray.__contains__", "bytearray.__mod__", "bytearray.__rmod__", "_struct.pack_into.held", "bytearray.find.held"].contains id)
  | _ => true
structure Clean (st : List (Code × Pos)) : Prop where
  free : ∀ x ∈ st, decFree x.1 = true
  caller : ∃ x ∈ st, x.1.isCaller = true

def wpC {α : Type} (M : Model) (A : Around) (t : Sem α) (Q : α → Shared → Prop) (E : Value → Shared → Prop) (s : Shared) : Prop :=
  ∀ Γ p, Γ.In A → (∀ q, Clean ((Γ.code, q) :: Γ.below)) → wp M Γ t (fun a _ s' => Q a s') (fun e _ s' => E e s') p s
def codeC (M : Model) (A : Around) (c : Code) (R : Result → Shared → Prop) (s : Shared) : Prop :=
  ∀ Γ p, Γ.code = c → Γ.Below A → Clean Γ.below → wpCode M Γ R p s

theorem Clean.cons {st : List (Code × Pos)} (h : Clean st) {c : Code} {p : Pos} (hc : decFree c = true) : Clean ((c, p) :: st) :=
  ⟨fun x hx => (List.mem_cons.mp hx).elim (fun e => e ▸ hc) (h.free x), let ⟨x, hx, e⟩ := h.caller; ⟨x, List.mem_cons_of_mem _ hx, e⟩⟩
section
variable {α β : Type} {M : Model} {A : Around} {E : Value → Shared → Prop} {s : Shared}
theorem wpC_any {t : Sem α} {Q : α → Shared → Prop} (h : wpAny M A t Q E s) : wpC M A t Q E s := fun Γ p hΓ _ => h Γ p hΓ
theorem codeC_any {c : Code} {R : Result → Shared → Prop} (h : codeAny M A c R s) : codeC M A c R s := fun Γ p hc hΓ _ => h Γ p hc hΓ
theorem wpC_pure {a : α} {Q : α → Shared → Prop} (h : Q a s) : wpC M A (pure a) Q E s := fun _ _ _ _ => h
theorem wpC_mono {t : Sem α} {Q Q' : α → Shared → Prop} {E' : Value → Shared → Prop} (h : wpC M A t Q E s) (hQ : ∀ a s, Q a s → Q' a s) (hE : ∀ e s, E e s → E' e s) : wpC M A t Q' E' s :=
  fun Γ p hΓ hb => Sem.wp_mono M Γ t (fun a _ s => hQ a s) (fun e _ s => hE e s) p s (h Γ p hΓ hb)
theorem wpC_bind {m : Sem α} {f : α → Sem β} {Q : β → Shared → Prop} (h : wpC M A m (fun a s' => wpC M A (f a) Q E s') E s) : wpC M A (m >>= f) Q E s := fun Γ p hΓ hb => by
  rw [Sem.wp_bind']
  exact Sem.wp_mono M Γ m (fun a p' s' h' => h' Γ p' hΓ hb) (fun _ _ _ h' => h') p s (h Γ p hΓ hb)
theorem wpC_bindA {m : Sem α} {f : α → Sem β} {Q : β → Shared → Prop} (h : wpAny M A m (fun a s' => wpC M A (f a) Q E s') E s) : wpC M A (m >>= f) Q E s := wpC_bind (wpC_any h)
theorem wpC_onRaise {m : Sem α} {k : Value → Sem Unit} {Q : α → Shared → Prop} (h : wpC M A m Q (fun _ _ => False) s) : wpC M A (m.onRaise k) Q E s := fun Γ p hΓ hb => by
  rw [Sem.wp_onRaise]
  exact Sem.wp_mono M Γ m (fun _ _ _ h' => h') (fun e p' s' h' => False.elim h') p s (h Γ p hΓ hb)
theorem wpC_attempt {m : Sem α} {Q : Except Value α → Shared → Prop} (h : wpC M A m (fun a => Q (.ok a)) (fun e => Q (.error e)) s) : wpC M A m.attempt Q E s :=
  fun Γ p hΓ hb => by rw [Sem.wp_attempt]; exact h Γ p hΓ hb
theorem wpC_holding {vs : List Value} {m : Sem α} {Q : α → Shared → Prop} (h : wpC M A m Q E s) : wpC M A (holding vs m) Q E s :=
  fun Γ p hΓ hb => by rw [Sem.wp_holding]; exact h Γ p hΓ hb
theorem wpC_eq {t t' : Sem α} {Q : α → Shared → Prop} (e : t = t') (h : wpC M A t' Q E s) : wpC M A t Q E s := e ▸ h
theorem wpC_of_eq {t : Sem α} {a : α} {Q : α → Shared → Prop} (e : t = pure a) (h : Q a s) : wpC M A t Q E s := wpC_any (wpAny_of_eq e h)
theorem wpC_if_false {c : Bool} {a b : Sem α} {Q : α → Shared → Prop} (hc : c = false) (h : wpC M A b Q E s) : wpC M A (if c = true then a else b) Q E s := by
  subst hc; exact h
theorem wpC_if_true {c : Bool} {a b : Sem α} {Q : α → Shared → Prop} (hc : c = true) (h : wpC M A a Q E s) : wpC M A (if c = true then a else b) Q E s := by
  subst hc; exact h

theorem codeC_of_tree {c : Code} {R : Result → Shared → Prop} (hd : decFree c = true)
    (h : wpC M (A.under c) (M.den c) (fun fin s' => match fin with | .done f => R (.ok f) s' | .again c' => c'.quiet = true ∧ codeC M A c' R s')
      (fun e s' => R (.error e) s') s) : codeC M A c R s := fun Γ p hc hΓ hb => by
  rw [wpCode_iff_wp, hc]
  refine Sem.wp_mono M Γ _ (fun fin p' s' h' => ?_) (fun _ _ _ h' => h') p s (h Γ p (hc ▸ hΓ.in) (fun q => hb.cons (hc ▸ hd)))
  cases fin with
  | done f => exact h'
  | again c' => exact ⟨h'.1, h'.2 (Γ.goto c') p' rfl (hΓ.goto c') hb⟩
theorem codeC_mono {c : Code} {R R' : Result → Shared → Prop} (h : codeC M A c R s) (hR : ∀ r s, R r s → R' r s) : codeC M A c R' s :=
  fun Γ p hc hΓ hb => wpCode_mono hR (h Γ p hc hΓ hb)
theorem wpC_run {c : Code} {h : Option Value} {Q : Flow → Shared → Prop}
    (hc : codeC M (A.mark h) c (fun r s' => match r with | .ok f => Q f s' | .error e => E e s') s) (hnb : h ≠ some byPass := by intro x; cases x) :
    wpC M A (run c h) Q E s :=
  fun Γ p hΓ hb => by
    rw [Sem.wp_run]
    exact hc _ p rfl (hΓ.enter c h p hnb) (hb p)
theorem wpC_call {f : Value} {pos : List Value} {kw : List (Str × Value)} {Q : Value → Shared → Prop}
    (hc : codeC M A (.call f ⟨pos, kw⟩) (fun r s' => match r with | .ok (.ret v) => Q v s' | .ok _ => False | .error e => E e s') s) :
    wpC M A (call f pos kw) Q E s := fun Γ p hΓ hb => by
  unfold PySem.call
  rw [Sem.wp_runValue]
  exact hc _ p rfl (hΓ.enter _ none p (by intro x; cases x)) (hb p)
theorem any_clean {a : Addr} : ∀ {st : List (Code × Pos)}, (∀ x ∈ st, decFree x.1 = true) → (st.any fun
    | (.builtin "bytearray.__contains__" ⟨v :: _, _⟩, _) | (.builtin "bytearray.__mod__" ⟨v :: _, _⟩, _)
    | (.builtin "bytearray.__rmod__" ⟨_ :: v :: _, _⟩, _) | (.builtin "_struct.pack_into.held" ⟨v :: _, _⟩, _) => Builtin.Bytes.sameRef v (.ref a)
    | (.builtin "bytearray.find.held" ⟨_ :: _ :: held, _⟩, _) => held.any (Builtin.Bytes.sameRef (.ref a))
    | (.builtin id ⟨v :: _, _⟩, _) => Builtin.Bytes.sameRef v (.ref a) && Builtin.Bytes.decodersThatHold.contains id
    | _ => false) = false := by
  intro st h
  rw [List.any_eq_false]
  intro x hx
  have hd := h x hx
  obtain ⟨c, p⟩ := x
  dsimp only at hd ⊢
  split
  all_goals first
    | (rename_i heq; injection heq with e1 e2; subst e1; exfalso; revert hd; unfold decFree; dsimp only; decide)
    | skip
  · rename_i id v r k _ _ _ _ _ _ heq
    injection heq with e1 e2
    subst e1
    simp only [decFree, Bool.not_eq_true', Bool.or_eq_false_iff] at hd
    rw [hd.1]; simp
  · exact Bool.false_ne_true
theorem exported_clean {a : Addr} {Q : Bool → Shared → Prop} (h : Q false s) : wpC M A (Builtin.Bytes.exported (.ref a)) Q E s := fun Γ p hΓ hb => by
  show Q (((Γ.code, p) :: Γ.below).any _) s
  refine Eq.mpr (congrArg (fun b => Q b s) ?_) h
  exact any_clean (a := a) (hb p).free
theorem not_python {st : List (Code × Pos)} {own : List String} (h : ∃ x ∈ st, x.1.isCaller = true) : pythonCodeMadeTheCall own (st.map (·.1)) = false := by
  obtain ⟨x, hx, hc⟩ := h
  have e : ((st.map (·.1)).any Code.isCaller) = true := List.any_eq_true.mpr ⟨x.1, List.mem_map.mpr ⟨x, hx, rfl⟩, hc⟩
  show (!((st.map (·.1)).any Code.isCaller) && _ && _) = false
  rw [e]; rfl
theorem mark_clean {own : List String} {e : Value} {Q : Unit → Shared → Prop} (h : Q () s) : wpC M A (markTheRefusal own e) Q E s := fun Γ p hΓ hb => by
  unfold markTheRefusal
  show wp M Γ (if pythonCodeMadeTheCall own (((Γ.code, p) :: Γ.below).map (·.1)) = true then _ else pure ()) _ _ p s
  rw [not_python (hb p).caller]
  exact h
end
end Mine
end
section
open PySem PySem.W PyProof.Rows PySem.Calls
open Sem (wp)
set_option Elab.async false
set_option maxRecDepth 100000
namespace Mine
namespace BF
theorem mro : mroOf (.type "bytearray") = pure [.type "bytearray", .type "object"] := by rw [mroOf_type]; kernel_rfl
theorem lookup_new : typeLookup (.type "bytearray") "__new__" = pure (some (.builtin "bytearray.__new__")) := by rw [typeLookup_type, builtinLookup_eq_fast]; kernel_rfl
theorem lookup_release : typeLookup (.type "bytearray") "__release_buffer__" = pure (some (.builtin "bytearray.__release_buffer__")) := by rw [typeLookup_type, builtinLookup_eq_fast]; kernel_rfl
theorem slot_init : Slot "bytearray" "__init__" "bytearray.__init__" :=
  .of (owner := "bytearray") (n := "__init__") (by rw [typeLookup_type, builtinLookup_eq_fast]; kernel_rfl) (by decide +kernel) (by decide +kernel) (by decide +kernel)
    (by first | exact .inl (by decide +kernel) | exact .inr (by decide +kernel)) (by rw [isSubtype_type]; kernel_rfl)
theorem sub : isSubtype (.type "bytearray") (.type "bytearray") = pure true := by rw [isSubtype_type]; kernel_rfl
theorem called : TypeCalled "bytearray" "bytearray.__new__" "bytearray.__init__" :=
  ⟨by decide +kernel, by decide +kernel, ⟨_, _, mro⟩, madeBy_type mro lookup_new (by decide +kernel), by decide +kernel, sub, slot_init⟩
theorem typeCall (a : Value) : checkTypeCall "bytearray" ⟨[a], []⟩ = pure () := by kernel_rfl
theorem newCall (a : Value) : checkBuiltinCall "bytearray.__new__" ⟨[.type "bytearray", a], []⟩ = pure () := by kernel_rfl
theorem plain_new : plainId "bytearray.__new__" = true := by decide +kernel
theorem entry_new : entryFor table "bytearray.__new__" = some Builtin.«list.__new__» := entryFor_alias (id' := "list.__new__") (by kernel_rfl) (by first | rfl | decide +kernel) (by decide +kernel) (by kernel_rfl)
theorem entry_init : entryFor table "bytearray.__init__" = some Builtin.«bytearray.__init__» := entryFor_of_tree (by kernel_rfl)
theorem args_init (a b : Value) : argsOk "bytearray.__init__" ⟨[a, b], []⟩ := by unfold argsOk; kernel_rfl
theorem bind (v : Value) : Builtin.Bytes.bindOptional "bytearray.__init__" "bytearray" ["source", "encoding", "errors"] [v] [] = pure [some v, none, none] := by kernel_rfl
theorem noIdx : typeLookup (.type "bytes") "__index__" = pure none := by rw [typeLookup_type, builtinLookup_eq_fast]; kernel_rfl
end BF
set_option maxRecDepth 1000000 in
set_option maxHeartbeats 4000000 in
theorem owner_ba_new : ("bytearray.__new__".splitOn ".__new__").headD "" = "bytearray" := by simp +decide [String.splitOn, String.splitOnAux]
abbrev baO (b : Array UInt8) : Obj := { cls := .type "bytearray", data := .bytearray b }
section
variable {prog : Program} {w : World} {A : Around} {E : Value → Shared → Prop} {s : Shared} {h₀ : Heap} {L : Addr} {m : PySem.Str → Option Value} {news : List (Addr × Obj)}
theorem code_ba_new (a : Value) {Q₁ : Value → Shared → Prop}
    (h : Q₁ (.ref s.heap.objs.size) { s with heap := s.heap.push (baO #[]) }) :
    codeAny (model prog w) A (.call (.builtin "bytearray.__new__") ⟨[.type "bytearray", a], []⟩) (wants Q₁ E) s := by
  refine codeAny_of_tree ?_
  show wpAny _ A.in1 (do checkBuiltinCall "bytearray.__new__" ⟨[.type "bytearray", a], []⟩; again (.builtin "bytearray.__new__" ⟨[.type "bytearray", a], []⟩)) _ _ s
  refine wpAny_bind (wpAny_of_eq (BF.newCall a) (wpAny_pure ⟨plainId_quiet BF.plain_new _, codeAny_builtin_stack BF.entry_new rfl fun p st => ?_⟩))
  rw [Around.under_plainId BF.plain_new _]
  have hsub := BF.sub
  have hown := owner_ba_new
  obtain ⟨hp, g, d, tk, os⟩ := s
  simp only [hown]
  wp_walk
  exact h
theorem own_release_ba {D : Addr} {b : Array UInt8} {Q : Bool → Shared → Prop} (hD : s.heap.get? D = some (baO b)) (h : Q false s) : wpAny (model prog w) A (Builtin.Bytes.ownRelease (.ref D)) Q E s := by
  have hT : s.TypeIs (.ref D) "bytearray" := ⟨_, hD, rfl⟩
  unfold Builtin.Bytes.ownRelease Builtin.Bytes.slotIsOwn
  refine wpAny_bind (wpAny_bind (wpAny_specialOf hT BF.lookup_release ?_))
  dsimp only
  have key : ∀ x : String, x = "bytearray" → wpAny (model prog w) A (isInstance (.ref D) (.type x)) (fun a s' => wpAny (model prog w) A (pure (!a)) Q E s') E s := fun x hx => by
    subst hx
    exact wpAny_isInstance hT BF.sub (wpAny_pure h)
  refine wpAny_ite ?_
  rw [if_neg (by decide +kernel)]
  exact key _ (by decide +kernel)
theorem full_eq {id : String} {b : Array UInt8} {t : Tok} : Builtin.Bytes.buffer? id (.bytes b t) true = pure (some b) := by
  unfold Builtin.Bytes.buffer?
  rw [KBy.special_eq KBy.look_buffer, KBy.own_buffer, KBy.own_release]
  kernel_rfl
theorem wpAny_baWrite {D : Addr} {b : Array UInt8} {f : Array UInt8 → Array UInt8} {Q : Unit → Shared → Prop} (hD : s.heap.get? D = some (baO b)) (hz : (f b).size ≤ sizeLine)
   (h : Q () { s with heap := s.heap.update D (Obj.mapBytearray f) }) : wpAny (model prog w) A (Builtin.Bytes.write (.ref D) f) Q E s := by
  show wpAny _ _ (updateBytearray D f) _ _ _
  unfold updateBytearray
  refine wpAny_bind (wpAny_load hD ?_)
  show wpAny _ _ (update D (Obj.mapBytearray f) >>= fun _ => lookBehind D) _ _ _
  refine wpAny_bind (wpAny_update hD ?_)
  have hS₂ : (s.heap.update D (Obj.mapBytearray f)).get? D = some (baO (f b)) := Heap.get?_update_self (Obj.mapBytearray f) hD rfl
  refine wpAny_lookBehind hS₂ ?_ h
  show (if (f b).size > sizeLine then some "bytearray:memory" else none) = none
  rw [if_neg (by omega)]
end
end Mine
end
section
open PySem PySem.W PyProof.Rows PySem.Calls
open Sem (wp)
set_option Elab.async false
set_option maxRecDepth 100000
namespace Mine
section
variable {prog : Program} {w : World} {A : Around} {E : Value → Shared → Prop} {s : Shared} {h₀ : Heap} {L : Addr} {m : PySem.Str → Option Value} {news : List (Addr × Obj)}
theorem init_ba {D : Addr} {b : Array UInt8} {u : Tok} {Q : Fin → Shared → Prop} (hD : s.heap.get? D = some (baO #[])) (hz : b.size ≤ sizeLine)
   (h : ∀ h' k, (∀ a o, a ≠ D → s.heap.get? a = some o → h'.get? a = some o) → h'.get? D = some (baO b) → Q (.done (.ret .none)) { s with heap := h', toks := k }) :
   wpC (model prog w) A (Builtin.«bytearray.__init__» ⟨[.ref D, .bytes b u], []⟩) Q E s := by
  unfold Builtin.«bytearray.__init__»
  refine wpC_bindA (own_release_ba hD ?_)
  refine wpC_if_false rfl ?_
  refine wpC_bind (wpC_of_eq (BF.bind _) ?_)
  dsimp only
  refine wpC_bind (wpC_of_eq (a := ()) rfl ?_)
  refine wpC_bind (wpC_of_eq (a := ()) rfl ?_)
  refine wpC_bind ?_
  show wpC _ _ (Builtin.Bytes.exported (.ref D) >>= _) _ _ _
  refine wpC_bind (exported_clean ?_)
  show wpC _ _ (Builtin.Bytes.exportsOf (.ref D) >>= _) _ _ _
  unfold Builtin.Bytes.exportsOf
  refine wpC_bindA (wpAny_bind (wpAny_load hD (wpAny_pure ?_)))
  refine wpC_pure ?_
  refine wpC_if_false rfl ?_
  refine wpC_any ?_
  refine wpAny_bind (wpAny_baWrite hD (Nat.zero_le _) ?_)
  have hD₁ : (s.heap.update D (Obj.mapBytearray fun _ => #[])).get? D = some (baO #[]) := Heap.get?_update_self (Obj.mapBytearray fun _ => #[]) hD rfl
  refine wpAny_bind (wpAny_of_eq (a := (none : Option PySem.Str)) rfl ?_)
  refine bm_if_false rfl ?_
  refine wpAny_bind (wpAny_of_eq (a := ()) rfl ?_)
  refine wpAny_bind (wpAny_of_eq (KBy.special_eq BF.noIdx) ?_)
  refine bm_if_false rfl ?_
  refine wpAny_bind (wpAny_of_eq full_eq ?_)
  dsimp only
  refine wpAny_bind (wpAny_rule ?_)
  refine wpAny_bind (wpAny_baWrite hD₁ hz ?_)
  refine wpAny_bind (wpAny_pure ?_)
  refine wpAny_pure ?_
  refine h _ _ (fun a o ha ho => ?_) ?_
  · exact (Heap.get?_update_other _ _ (Ne.symm ha)).trans ((Heap.get?_update_other _ _ (Ne.symm ha)).trans ho)
  · exact Heap.get?_update_self (Obj.mapBytearray fun _ => b) hD₁ rfl
end
end Mine
end
section
open PySem PySem.W PyProof.Rows PySem.Calls
open Sem (wp)
set_option Elab.async false
set_option maxRecDepth 100000
namespace Mine
section
variable {prog : Program} {w : World} {A : Around} {E : Value → Shared → Prop} {s : Shared} {h₀ : Heap} {L : Addr} {m : PySem.Str → Option Value} {news : List (Addr × Obj)} {R : Result → Shared → Prop}
theorem free_init {args : Args} : decFree (.builtin "bytearray.__init__" args) = true := by unfold decFree; dsimp only; decide +kernel
theorem free_tcall {args : Args} : decFree (.builtin "type.__call__" args) = true := by unfold decFree; dsimp only; decide +kernel
theorem codeC_builtin {id : String} {b : Builtin} {args : Args} (hb : entryFor table id = some b) (hd : decFree (.builtin id args) = true)
   (h : wpC (model prog w) (A.under (.builtin id args)) (b args) (fun fin s' => match fin with | .done f => R (.ok f) s' | .again c' => c'.quiet = true ∧ codeC (model prog w) A c' R s')
      (fun e s' => R (.error e) s') s) : codeC (model prog w) A (.builtin id args) R s := by
  refine codeC_of_tree hd ?_
  show wpC _ _ (match entryFor table id with | some b => b args | none => unsupported ((withoutEnding? id "#data").getD id)) _ _ _
  rw [hb]; exact h
theorem wpC_callSpecial {self : Value} {T : String} {name : PySem.Str} {id : String} {args : List Value} {Q : Option Value → Shared → Prop} (hT : s.TypeIs self T) (h : Slot T name id)
    (hc : wpC (model prog w) A (call (.builtin id) (self :: args) []) (fun v => Q (some v)) E s) : wpC (model prog w) A (callSpecial? self name args []) Q E s := by
  simp only [callSpecial?]
  refine wpC_bindA (wpAny_specialOf hT h.lookup ?_)
  simp only [h.bind]
  exact wpC_holding (wpC_bind (wpC_pure (wpC_bind (wpC_mono hc (fun v s' h' => wpC_pure h') fun _ _ h' => h'))))
theorem code_ba_init {D : Addr} {b : Array UInt8} {u : Tok} {Q : Value → Shared → Prop} (hD : s.heap.get? D = some (baO #[])) (hz : b.size ≤ sizeLine)
   (h : ∀ h' k, (∀ a o, a ≠ D → s.heap.get? a = some o → h'.get? a = some o) → h'.get? D = some (baO b) → Q .none { s with heap := h', toks := k }) :
   wpC (model prog w) A (call (.builtin "bytearray.__init__") [.ref D, .bytes b u] []) Q E s := by
  refine wpC_call (codeC_of_tree rfl ?_)
  show wpC _ _ (do checkBuiltinCall "bytearray.__init__" ⟨[.ref D, .bytes b u], []⟩; again (.builtin "bytearray.__init__" ⟨[.ref D, .bytes b u], []⟩)) _ _ s
  refine wpC_bindA (BF.slot_init.check _ _ _ _ _ _ _ _ ⟨_, hD, rfl⟩ (BF.args_init _ _) ?_)
  refine wpC_pure ⟨plainId_quiet BF.slot_init.plain _, codeC_builtin BF.entry_init free_init ?_⟩
  exact init_ba hD hz fun h' k a b => h h' k a b
theorem call_bytearray {b : Array UInt8} {u : Tok} {Q : Value → Shared → Prop} (F : Fr h₀ L s.heap m) (N : News h₀ L s.heap news) (hz : b.size ≤ sizeLine)
   (h : ∀ D h' k, Fr h₀ L h' m → News h₀ L h' ((D, baO b) :: news) → (∀ p ∈ news, p.1 < D) → Q (.ref D) { s with heap := h', toks := k }) :
   wpC (model prog w) A (call (.type "bytearray") [.bytes b u]) Q E s := by
  obtain ⟨c, tl, hmro⟩ := BF.called.mro
  have hmade := BF.called.made
  have hsub := BF.called.sub
  refine wpC_call (codeC_of_tree rfl ?_)
  show wpC _ _ (callAny (.type "bytearray") _) _ _ _
  refine wpC_pure ⟨Code.quiet_builtin _ (by decide +kernel), codeC_builtin PySem.F.entry_type_call free_tcall ?_⟩
  unfold Builtin.«type.__call__»
  dsimp only
  refine wpC_if_false BF.called.notType ?_
  refine wpC_if_false BF.called.canCreate ?_
  refine wpC_bind (wpC_of_eq (BF.typeCall _) ?_)
  refine wpC_bind (wpC_of_eq hmro ?_)
  refine wpC_if_false rfl ?_
  refine wpC_bind (wpC_of_eq hmade ?_)
  dsimp only
  refine wpC_bind (wpC_pure ?_)
  refine wpC_bindA (wpAny_holding (wpAny_call (codeAny_mono (code_ba_new (E := E) (Q₁ := fun o s' => o = .ref s.heap.objs.size ∧ s' = { s with heap := s.heap.push (baO #[]) }) _ ⟨rfl, rfl⟩) fun r s' hr => ?_)))
  cases r with
  | error e => exact hr
  | ok fl =>
    cases fl with
    | ret obj =>
      obtain ⟨rfl, rfl⟩ := hr
      have hD : (s.heap.push (baO #[])).get? s.heap.objs.size = some (baO #[]) := Heap.get?_push_size _ rfl
      have hT : Shared.TypeIs { s with heap := s.heap.push (baO #[]) } (.ref s.heap.objs.size) "bytearray" := ⟨_, hD, rfl⟩
      refine wpC_bindA (wpAny_isInstance hT BF.sub ?_)
      refine wpC_if_false rfl ?_
      refine wpC_bind (wpC_holding (wpC_callSpecial hT BF.slot_init (code_ba_init hD hz fun h' k hk hk' => ?_)))
      dsimp only
      refine wpC_if_false rfl ?_
      refine wpC_pure ?_
      have hne : ∀ a o, s.heap.get? a = some o → a ≠ s.heap.objs.size := fun a o ho => Nat.ne_of_lt (Heap.lt_size ho)
      have keep : ∀ a o, s.heap.get? a = some o → h'.get? a = some o := fun a o ho => hk a o (hne a o ho) (Heap.get?_push_of_some _ ho)
      refine h s.heap.objs.size h' k (F.keptAll keep) ?_ fun p hp => Heap.lt_size (N p hp).1
      intro p hp
      rcases List.mem_cons.mp hp with rfl | hp
      · exact ⟨hk', Ne.symm (Nat.ne_of_lt F.ns.lt), next_is_new F⟩
      · exact (N.grown keep) p hp
    | _ => exact hr.elim
end
end Mine
end
section
open PySem PySem.W PyProof.Rows PySem.Calls
set_option Elab.async false
set_option maxRecDepth 100000
namespace Mine
theorem start_free : decFree (.builtin "claim.caller" {}) = true := by decide +kernel
theorem thread_endsC {prog : Program} {w : World} {t : Sem Fin} {s : Shared} {R : Result → Shared → Prop} (hreg : s.asleep)
    (h : wpC (model prog w) callerA t (fun fin s' => ∃ f, fin = .done f ∧ (R (.ok f) s' ∧ leftWithCleanup s'.gens = false)) (fun e s' => R (.error e) s' ∧ leftWithCleanup s'.gens = false) s) :
    ∃ n r s' s'', runN (denote table) prog w n s ⟨t, .builtin "claim.caller" {}, default, []⟩ = .halted (outcomeOf r) s' ∧
      schedN (denote table) prog w n (.single s ⟨t, .builtin "claim.caller" {}, default, []⟩) = .halted (outcomeOf r) s' ∧ s'.forget = s''.forget ∧ R r s'' := by
  have h0 := h ⟨.builtin "claim.caller" {}, none, none, [], none⟩ default caller_in (fun q => ⟨fun x hx => by rw [List.mem_singleton.mp hx]; exact start_free, _, .head _, rfl⟩)
  obtain ⟨n, r, s₁, s₂, hs, hn, hfo, hR⟩ := wp_halts_full (M := model prog w) (c := .builtin "claim.caller" {}) (t := t) (p := default) (R := R) hreg
    (Sem.wp_mono _ _ _ (fun fin p' s' hf => by obtain ⟨f, rfl, hr⟩ := hf; exact hr) (fun _ _ _ hf => hf) _ _ h0)
  exact ⟨n, r, s₂, s₁, hn, hs, hfo, hR⟩

abbrev WalkC (q : Program) (loose : List PySem.Str) (XP : (PySem.Str → Option Value) → Heap → Prop) (YP : World → Heap → Prop) (r : RowW) (d : DefRec) (kwd : List (PySem.Str × PySem.Expr)) (run : Value → List Value → Sem Value) : Prop :=
  ∀ (w : World) (s₀ s₁ : Shared) (mg mb : PySem.Str → Option Value), Ground q loose r.records XP w s₀ mg mb s₁.heap → YP w s₁.heap → ∀ (a : Addr) (o : Obj) (pm cd doc dV kV : Value), s₁.heap.get? a = some o →
    o.data = .func { docDef d.name d.params d.body d.scope pm cd doc with defaults := dV, kwdefaults := kV } → s₁.heap.CodeRec cd d.name → Dflts mg s₁.heap d.params kwd dV kV → mg d.name = some (.ref a) → s₁.gens = #[] →
    ∀ (args : List WData) (vals : List Value) (as : List Addr), r.claim.pre args = true → WData.layableAll args = true → ReadsAllW r.records (classAt s₀.heap) s₁.heap vals args as → WellAll w.params s₁.heap vals args → (∀ a ∈ as, (a == sysModules) = false) →
      wpC (model r.prog w) callerA (run (.ref a) vals) (fun v s' => GoodWG r.claim (classAt s₀.heap) (ExcName.means s₀.heap) args s₁ (.ok (.ret v)) s')
        (fun e s' => GoodWG r.claim (classAt s₀.heap) (ExcName.means s₀.heap) args s₁ (.error e) s') s₁

theorem callFromC {c : ClaimW} {tree : List Value → Sem Fin} {w : World} {s : Shared} {free : Addr → Prop} {gens : Prop} {kept : Heap → Prop} (hz : s.asleep) (hgens : s.gens = #[])
    (hspec : ∀ args, c.pre args = true → WData.layableAll args = true → ∀ ord : List DictEntry → List DictEntry, (∀ l, (ord l).Perm l) →
      ∃ vs s₁, layAllW c.records (classAt s.heap) w.params ord args s = some (vs, s₁) ∧
        wpC (model c.prog w) callerA (tree vs) (fun fin s' => ∃ f, fin = .done f ∧ (c.Ends s args vs s₁ (.ok f) s' ∧ s'.os = s.os ∧ AllBare s'.gens ∧ kept s'.heap))
          (fun e s' => c.Ends s args vs s₁ (.error e) s' ∧ s'.os = s.os ∧ AllBare s'.gens ∧ kept s'.heap) s₁) :
    c.CallFrom (fun vs => ⟨tree vs, .builtin "claim.caller" {}, default, []⟩) w free gens kept s := by
  intro args hpre hlay ord hord
  obtain ⟨vs, s₁, hlaid, hcode⟩ := hspec args hpre hlay ord hord
  have hal := layAllW_rest _ _ _ hlaid
  have hz₁ : s₁.asleep := Shared.asleep_of_life hal.2.2.2 hz
  obtain ⟨k, r, s', s'', hrun, hsched, hfo, hcase, hos, hkp⟩ := thread_endsC (R := fun r s' => c.Ends s args vs s₁ r s' ∧ s'.os = s.os ∧ kept s'.heap) hz₁
    (wpC_mono hcode (fun fin s' ⟨f, e, h1, h2, h3, h4⟩ => ⟨f, e, ⟨h1, h2, h4⟩, leftWithCleanup_false_of_bare h3⟩) fun e s' ⟨h1, h2, h3, h4⟩ => ⟨⟨h1, h2, h4⟩, leftWithCleanup_false_of_bare h3⟩)
  obtain ⟨eh, _, _, eo, _⟩ := Shared.forget_eq hfo
  have hlife : s'.heap.life = s.heap.life := (runN_life _ _ _ hrun).trans hal.2.2.2
  refine ⟨vs, s₁, hlaid, k, _, s', hsched, ?_, (fun _ i x hx => by rw [hgens] at hx; simp at hx), by rw [eh]; exact hkp, by rw [hlife], Shared.rest_eq (eo.trans hos)⟩
  rcases hcase.congr eh with ⟨v, rfl, d1, d2, d3, d4, d5⟩ | ⟨e, ob, cls, rfl, d1, d2, d3, d4, d5⟩
  · exact .inl ⟨v, rfl, d1, d2, d3, fun b o y _ => d4 b o y, d5⟩
  · exact .inr ⟨e, ob, cls, rfl, d1, d2, d3, d4, fun b o y _ => d5 b o y⟩
end Mine
end
section
open PySem PySem.W PyProof.Rows PySem.Calls
set_option Elab.async false
set_option maxRecDepth 100000
namespace Mine
theorem PySem.W.holds_open {r : OpenRow} {q : Program} {loose : List PySem.Str} {Xt : Shared → Bool} {XP : (PySem.Str → Option Value) → Heap → Prop} {α : Type} {Yf : Shared → α} {Ya : World → α} {YP : World → Heap → Prop} {d : DefRec} {kwd : List (PySem.Str × PySem.Expr)} {N : Nat}
    (left : LeftO r.prog q loose Xt Yf Ya N) (hY : ∀ w s, Yf s = Ya w → YP w s.heap) (hYk : ∀ w h h', YP w h → (∀ b o, h.get? b = some o → h'.get? b = some o) → YP w h')
    (hX : ∀ s, Xt s = true → XP (s.heap.nsMap mainGlobals) s.heap) (hXk : ∀ mg h h', XP mg h → (∀ b o, h.get? b = some o → h'.get? b = some o) → XP mg h')
    (hdef : defOf q r.name = some (d, kwd)) (hp : r.prog.theDef r.name = some (d.params, d.body, d.scope)) (hk : kwWritten? d.params.kwonlyargs d.params.kw_defaults = some kwd) (hRf : ∀ s, Xt s = true → RecFacts r.records s.heap) (hwr : (!r.writes || r.records.isEmpty) = true)
    (k1 : r.wellSaid = true) (ok : (chainsOk q && opensWell r.prog && (frees r.toRowW && r.within.isEmpty)) = true) (hb : r.prog.bare) (hw : r.toRowW.promised)
    (call : WalkC q loose XP YP r.toRowW d kwd fun f vs => PySem.call f vs) : r.Holds := by
  refine ⟨k1, hw, ?_⟩
  obtain ⟨ok, k5⟩ := Bool.and_eq_true_iff.mp ok
  obtain ⟨hch, o1⟩ := Bool.and_eq_true_iff.mp ok
  obtain ⟨k5, k6⟩ := Bool.and_eq_true_iff.mp k5
  obtain ⟨hsame, hu, ha, hap, hm⟩ := frees_parts k5
  have hX' : ∀ s, Xt s = true → (fun mg h => XP mg h ∧ RecFacts r.records h) (s.heap.nsMap mainGlobals) s.heap := fun s hs => ⟨hX s hs, hRf s hs⟩
  refine ⟨⟨hb, o1, by show r.toRowW.makers.map _ = []; rw [hm]; rfl⟩, hw.witness, fun w => ⟨(left.behind hX hch w).1, fun s' hs' => ?_⟩⟩
  obtain ⟨s₀, hf, hg0, s, hT, hz, hgens, hg, G00, y⟩ := (left.behind (XP := fun mg h => XP mg h ∧ RecFacts r.records h) hX' hch w).2 s' hs'
  have RF := G00.X.2
  have G0 : Ground q loose [] XP w s (s.heap.nsMap mainGlobals) (s.heap.nsMap builtinsNs) s.heap := ⟨G00.T, G00.B, G00.D, G00.TE, G00.TD, G00.W, G00.X.1, G00.cls, G00.has, G00.apart, G00.once, G00.K⟩
  have hgens : s.gens = #[] := Array.eq_empty_of_size_eq_zero (beq_iff_eq.mp hgens)
  have G : Ground q loose r.records XP w s _ _ s.heap := RF.ground G0
  refine ⟨s₀, hf, hg0, s, hT, ?_, RF.1, RF.2.1, ?_⟩
  · intro n hn
    obtain rfl : n = r.name := by split at hn <;> simp_all
    exact pinned_of_view hg G0 hdef hp hk
  · refine callFromC (c := r.toRowW.claim) hz hgens fun args hpre hlay ord hord => ?_
    obtain ⟨⟨vs, s₁⟩, hlaid⟩ := Option.isSome_iff_exists.mp (layAllW_isSome (P := w.params) (ord := ord) G.has args r.args s (pre_splitW hpre).1)
    have keeps := layAllW_keeps _ _ _ hlaid
    have hal := layAllW_rest _ _ _ hlaid
    obtain ⟨as, hrd, hin, hold⟩ := reads_layAllW hord _ _ _ hlaid hlay s₁.heap (fun _ _ e => e)
    have Ld : Laid r.records w s s₁ args vs as := ⟨⟨ord, hord, hlaid⟩, hrd, hin, hold, keeps, hal.1.trans hgens, hal.2.2.1⟩
    have G₁ := G.keeps hXk keeps
    obtain ⟨a, o, pm, cd, doc, dV, kV, h1, h2, h3, h4, h5⟩ := G₁.fn hdef
    have hcall := call w s s₁ _ _ G₁ (hYk _ _ _ (hY w s y) keeps) a o pm cd doc dV kV h2 h3 h4 h5 (defOf_name hdef ▸ h1) Ld.gens args vs as hpre hlay Ld.reads Ld.well (Ld.low G.low)
    have hi := ident_freeW hu ha hap
    have hwi : r.toRowW.claim.within = [] := List.isEmpty_iff.mp k6
    refine ⟨vs, s₁, hlaid, ?_⟩
    refine wpC_bindA (wpAny_nsGet G₁.T.g ?_)
    rw [h1]
    refine wpC_bind (wpC_mono hcall (fun v s'' g => wpC_pure ⟨_, rfl, ?_⟩) fun e s'' g => ?_)
    · have z := g.laid (c := r.toRowW.claim) hsame hwi hi Ld
      exact ⟨z.1, z.2.1, z.2.2, fun qq => ⟨namesKept_of hT hg _ keeps g.2.1.old, noTable hwr qq⟩⟩
    · have z := g.laid (c := r.toRowW.claim) hsame hwi hi Ld
      exact ⟨z.1, z.2.1, z.2.2, fun qq => ⟨namesKept_of hT hg _ keeps g.2.1.old, noTable hwr qq⟩⟩
end Mine
end
section
open PySem PySem.W PyProof.Rows PySem.Calls
set_option Elab.async false
set_option maxRecDepth 100000
namespace Mine
section
variable {prog : Program} {w : World} {A : Around} {E : Value → Shared → Prop} {s : Shared} {R : Result → Shared → Prop} {env : Env}
theorem codeC_func {body : List Stmt} (h : wpC (model prog w) (A.deeper env) (execs body env) (fun f s' => R (.ok (.ret (match f with | .ret v => v | _ => .none))) s') (fun _ _ => False) s) :
    codeC (model prog w) A (.func body env) R s := by
  refine codeC_of_tree rfl ?_
  show wpC _ (A.deeper env) (do point; match ← (execs body env).onRaise (leaving env) with | .ret v => ret v | _ => ret .none) _ _ s
  refine wpC_bindA (wpAny_point ?_)
  refine wpC_bind (wpC_onRaise (wpC_mono h (fun f s' h' => ?_) fun _ _ h' => h'))
  cases f <;> exact wpC_pure h'
theorem law_call {name : PySem.Str} {params : Arguments} {body : List Stmt} {scope : Scope} {pm cd doc : Value} {a : Addr} {o : Obj} {args : List Value} {binds : List (PySem.Str × Value)}
    (hroom : A.depth < recursionLimit) (ho : s.heap.get? a = some o) (hdata : o.data = .func (docDef name params body scope pm cd doc)) (hlim : s.heap.NoLimit) (hcd : s.heap.CodeRec cd name)
    (hbind : bindArgs (docDef name params body scope pm cd doc) ⟨args, []⟩ = pure binds) (hloc : ∀ x ∈ binds, scope.names.lookup x.1 = some .local)
    (h : ∀ h₁, Fr s.heap s.heap.objs.size h₁ (fun x => binds.reverse.lookup x) →
      wpC (model prog w) (A.deeper (envOf name scope s.heap.objs.size a cd)) (execs body (envOf name scope s.heap.objs.size a cd))
        (fun f s' => R (.ok (.ret (match f with | .ret v => v | _ => .none))) s') (fun _ _ => False) { s with heap := h₁, toks := s.toks + binds.length })
    (hco : scope.isCoroutine = false) (hgen : scope.isGenerator = false) (hk : scope.kind = .function) (hcell : ∀ x ∈ scope.names, x.2 ≠ .cell) :
    codeC (model prog w) A (.call (.ref a) ⟨args, []⟩) R s := by
  refine codeC_of_tree rfl ?_
  show wpC _ A.in1 (callAny (.ref a) ⟨args, []⟩) _ _ s
  obtain ⟨c, oc, vs, tq, hc, hoc, hdc, hq⟩ := hcd
  have hd' : o.data = .func (docDef name params body scope pm (.ref c) doc) := by rw [← hc]; exact hdata
  subst hc
  simp only [callAny]
  refine wpC_bindA (wpAny_load ho ?_)
  simp only [hd', callFunction]
  refine wpC_bindA (m := field (.ref c) 1) (wpAny_field hoc hdc hq ?_)
  refine wpC_bind (wpC_pure ?_)
  refine wpC_bind (wpC_of_eq hbind ?_)
  refine wpC_bindA (wpAny_newFunctionEnv hcell hloc (fun h₁ hns hsb => ?_) hk)
  refine wpC_bindA (wpAny_enterFrame (hlim.fresh _ hsb) hroom ?_)
  have hco' : (docDef name params body scope pm (.ref c) doc).scope.isCoroutine = false := hco
  have hgen' : (docDef name params body scope pm (.ref c) doc).scope.isGenerator = false := hgen
  simp only [hco', hgen']
  refine wpC_pure ⟨rfl, ?_⟩
  show codeC _ _ (.func body (envOf name scope s.heap.objs.size a (.ref c))) _ _
  exact codeC_func (h h₁ ⟨hns, fun b o e => hsb.extBut b o (Nat.ne_of_lt (Heap.lt_size e)) (Heap.get?_push_of_some _ e), Nat.le_refl _⟩)

theorem wpC_cons {st : Stmt} {rest : List Stmt} {Q : Flow → Shared → Prop} (h : wpC (model prog w) A (exec st env) (fun fl s' => match fl with | .next => wpC (model prog w) A (execs rest env) Q E s' | fl => Q fl s') E s) :
    wpC (model prog w) A (execs (st :: rest) env) Q E s := by
  rw [execs_cons]
  refine wpC_bind (wpC_mono h (fun f s' h' => ?_) fun _ _ h' => h')
  cases f <;> first | exact h' | exact wpC_pure h'
theorem wpC_consA {st : Stmt} {rest : List Stmt} {Q : Flow → Shared → Prop} (h : wpAny (model prog w) A (exec st env) (fun fl s' => match fl with | .next => wpC (model prog w) A (execs rest env) Q E s' | fl => Q fl s') E s) :
    wpC (model prog w) A (execs (st :: rest) env) Q E s := wpC_cons (wpC_any h)
theorem wpC_nil {Q : Flow → Shared → Prop} (h : Q .next s) : wpC (model prog w) A (execs [] env) Q E s := wpC_pure h
theorem wpC_If {test : Expr} {body orelse : List Stmt} {pos : Pos} {Q : Flow → Shared → Prop}
    (h : wpC (model prog w) A (isTrue test env (eval test env)) (fun b s' => if b = true then wpC (model prog w) A (execs body env) Q E s' else wpC (model prog w) A (execs orelse env) Q E s') E s) :
    wpC (model prog w) A (exec (.If test body orelse pos) env) Q E s := by
  show wpC _ _ (do standAt pos; if ← isTrue test env (eval test env) then execs body env else execs orelse env) _ _ _
  refine wpC_bindA (wpAny_standAt ?_)
  refine wpC_bind (wpC_mono h (fun b s' h' => ?_) fun _ _ h' => h')
  cases b
  · exact wpC_if_false rfl h'
  · exact wpC_if_true rfl h'
theorem wpC_or {x : Expr} {rest : List Expr} {Q : Bool → Shared → Prop}
    (h : wpC (model prog w) A (isTrue x env (eval x env)) (fun b s' => if b = true then Q true s' else wpC (model prog w) A (allTrue .Or rest env) Q E s') E s) :
    wpC (model prog w) A (allTrue .Or (x :: rest) env) Q E s := by
  show wpC _ _ (do match BoolOp.Or, ← isTrue x env (eval x env) with | .And, false => pure false | .Or, true => pure true | _, _ => allTrue .Or rest env) _ _ _
  refine wpC_bind (wpC_mono h (fun b s' h' => ?_) fun _ _ h' => h')
  cases b
  · exact h'
  · exact wpC_pure h'
theorem wpC_boolOr {xs : List Expr} {pos : Pos} {t : Sem Value} {Q : Bool → Shared → Prop} (h : wpC (model prog w) A (allTrue .Or xs env) Q E s) :
    wpC (model prog w) A (isTrue (.BoolOp .Or xs pos) env t) Q E s := h
theorem wpC_ne {l r : Expr} {pos : Pos} {t : Sem Value} {Q : Bool → Shared → Prop}
    (h : wpC (model prog w) A (eval l env) (fun v s' => wpAny (model prog w) A (testChain pos v [.NotEq] (markedEach [.NotEq] [r] (evalEach [r] env))) Q E s') E s) :
    wpC (model prog w) A (isTrue (.Compare l [.NotEq] [r] pos) env t) Q E s := by
  show wpC _ _ (do testChain pos (← eval l env) [.NotEq] (markedEach [.NotEq] [r] (evalEach [r] env))) _ _ _
  exact wpC_bind (wpC_mono h (fun v s' h' => wpC_any h') fun _ _ h' => h')

theorem wpC_keep {α : Type} {vs : List Value} {m : Sem α} {Q : α → Shared → Prop} (h : wpC (model prog w) A m Q E s) : wpC (model prog w) A (m.keep vs) Q E s :=
  fun Γ p hΓ hb => by rw [Sem.wp_keep]; exact h Γ p hΓ hb
theorem wpC_spliced1 {x : Sem Value} {Q : List Value → Shared → Prop} (h : wpC (model prog w) A x (fun v s' => Q [v] s') E s) : wpC (model prog w) A (spliced [(false, x)]) Q E s := by
  unfold spliced
  refine wpC_bind (wpC_mono h (fun v s' h' => ?_) fun _ _ h' => h')
  refine wpC_if_false rfl ?_
  refine wpC_bind (wpC_pure ?_)
  refine wpC_bind (wpC_holding (wpC_pure ?_))
  exact wpC_pure h'
theorem wpC_evalArgs1 {f : Value} {x : Sem Value} {Q : Args → Shared → Prop} (h : wpC (model prog w) A x (fun v s' => Q ⟨[v], []⟩ s') E s) : wpC (model prog w) A (evalArgs f true [(false, x)] []) Q E s := by
  unfold evalArgs
  refine wpC_bind (wpC_spliced1 (wpC_mono h (fun v s' h' => ?_) fun _ _ h' => h'))
  refine wpC_bind (wpC_pure ?_)
  refine wpC_holding ?_
  refine wpC_if_true rfl ?_
  refine wpC_bind (wpC_of_eq (a := ([] : List Value)) rfl ?_)
  refine wpC_bind (wpC_pure ?_)
  exact wpC_pure h'
theorem wpC_callWith1 {pos : Pos} {f : Value} {x : Sem Value} {Q : Value → Shared → Prop}
    (h : wpC (model prog w) A x (fun v s' => (∃ k, Looks (model prog w) s'.heap (keeperOf f) k ∧ (k = Keeper.frame ∨ k = Keeper.machine)) ∧ wpC (model prog w) A (call f [v]) Q E s') E s) :
    wpC (model prog w) A (callWith pos f [] (backTo pos [(false, x)]) []) Q E s := by
  unfold callWith
  refine wpC_bind (wpC_holding ?_)
  show wpC _ _ (evalArgs f true [(false, x)] []) _ _ _
  refine wpC_evalArgs1 (wpC_mono h (fun v s' h' => ?_) fun _ _ h' => h')
  refine wpC_bindA (wpAny_standAt ?_)
  obtain ⟨⟨k, hk, hk'⟩, h'⟩ := h'
  refine wpC_bindA (hk.here ?_)
  have tail : ∀ {t : Sem Value}, wpC (model prog w) A t Q E s' → wpC (model prog w) A (t >>= fun r => holding [r] point >>= fun _ => pure r) Q E s' :=
    fun ht => wpC_bind (wpC_mono ht (fun r s₂ hr => wpC_bind (wpC_holding (wpC_any (wpAny_point (wpC_pure hr))))) fun _ _ x => x)
  rcases hk' with rfl | rfl
  · exact tail (wpC_keep h')
  · exact tail h'
theorem wpC_evalCall1 {f : PySem.Str} {fpos pos : Pos} {x : Expr} {Q : Value → Shared → Prop} (hx : starEach [x] env = [(false, eval x env)])
    (h : wpAny (model prog w) A (eval (.Name f fpos) env) (fun fv s₁ => wpC (model prog w) A (eval x env) (fun v s' => (∃ k, Looks (model prog w) s'.heap (keeperOf fv) k ∧ (k = Keeper.frame ∨ k = Keeper.machine)) ∧ wpC (model prog w) A (call fv [v]) Q E s') E s₁) E s) :
    wpC (model prog w) A (eval (.Call (.Name f fpos) [x] [] pos) env) Q E s := by
  show wpC _ _ (do callWith pos (← eval (.Name f fpos) env) [] (backTo pos (starEach [x] env)) []) _ _ _
  refine wpC_bindA (wpAny_mono h (fun fv s₁ h₁ => ?_) fun _ _ h' => h')
  rw [hx]
  exact wpC_callWith1 h₁
end
end Mine
end
section
open PySem PySem.W PyProof.Rows PySem.Calls
open Sem (wp)
set_option Elab.async false
set_option maxRecDepth 100000
namespace Mine
section
variable {α : Type} {M : Model} {A : Around} {E : Value → Shared → Prop} {s : Shared}
theorem wpC_onRaiseE {m : Sem α} {k : Value → Sem Unit} {Q : α → Shared → Prop} (h : wpC M A m Q (fun e s' => wpC M A (k e) (fun _ s'' => E e s'') E s') s) : wpC M A (m.onRaise k) Q E s := fun Γ p hΓ hb => by
  rw [Sem.wp_onRaise]
  exact Sem.wp_mono M Γ m (fun _ _ _ h' => h') (fun e p' s' h' => h' Γ p' hΓ hb) p s (h Γ p hΓ hb)
end
section
variable {prog : Program} {w : World} {A : Around} {E : Value → Shared → Prop} {s : Shared} {R : Result → Shared → Prop} {env : Env}
theorem codeC_funcE {body : List Stmt} (h : wpC (model prog w) (A.deeper env) (execs body env) (fun f s' => R (.ok (.ret (match f with | .ret v => v | _ => .none))) s')
     (fun e s' => wpAny (model prog w) (A.deeper env) (leaving env e) (fun _ s'' => R (.error e) s'') (fun e' s'' => R (.error e') s'') s') s) :
    codeC (model prog w) A (.func body env) R s := by
  refine codeC_of_tree rfl ?_
  show wpC _ (A.deeper env) (do point; match ← (execs body env).onRaise (leaving env) with | .ret v => ret v | _ => ret .none) _ _ s
  refine wpC_bindA (wpAny_point ?_)
  refine wpC_bind (wpC_onRaiseE (wpC_mono h (fun f s' h' => ?_) fun _ _ h' => wpC_any h'))
  cases f <;> exact wpC_pure h'
theorem codeC_call_def {a : Addr} {o : Obj} {fd : FuncData} {body : List Stmt} {args : Args} {binds : List (PySem.Str × Value)}
    (hroom : A.depth < recursionLimit) (ho : s.heap.get? a = some o) (hdata : o.data = .func fd) (hlim : s.heap.NoLimit) (hcd : s.heap.CodeRec fd.code fd.qualname)
    (hbody : fd.body = .stmts body) (hbind : BindsTo s fd args binds)
    (hcell : ∀ x ∈ fd.scope.names, x.2 ≠ .cell) (hloc : ∀ x ∈ binds, fd.scope.names.lookup x.1 = some .local)
    (h : ∀ h₀, h₀.Ns s.heap.objs.size (fun x => binds.reverse.lookup x) → (∀ b o, s.heap.get? b = some o → h₀.get? b = some o) →
      wpC (model prog w) (A.deeper (callEnv fd s.heap.objs.size a)) (execs body (callEnv fd s.heap.objs.size a)) (fun f s' => R (.ok (.ret (match f with | .ret v => v | _ => .none))) s')
        (fun e s' => wpAny (model prog w) (A.deeper (callEnv fd s.heap.objs.size a)) (leaving (callEnv fd s.heap.objs.size a) e) (fun _ s'' => R (.error e) s'') (fun e' s'' => R (.error e') s'') s')
        { s with heap := h₀, toks := s.toks + binds.length })
    (hco : fd.scope.isCoroutine = false) (hgen : fd.scope.isGenerator = false) (hk : fd.scope.kind = .function) :
    codeC (model prog w) A (.call (.ref a) args) R s := by
  refine codeC_of_tree rfl ?_
  show wpC _ A.in1 (callAny (.ref a) args) _ _ s
  simp only [callAny]
  refine wpC_bindA (wpAny_load ho ?_)
  obtain ⟨c, oc, vs, tq, hc, hoc, hdc, hq⟩ := hcd
  simp only [hdata, callFunction, hco, hgen, hbody, hc]
  refine wpC_bindA (m := field (.ref c) 1) (wpAny_field hoc hdc hq ?_)
  refine wpC_bind (wpC_pure ?_)
  refine wpC_bindA (hbind _ _ _ _ ?_)
  refine wpC_bindA (wpAny_newFunctionEnv hcell hloc (fun h₁ hns hsb => ?_) hk)
  refine wpC_bindA (wpAny_enterFrame (hlim.fresh _ hsb) hroom ?_)
  refine wpC_pure ⟨rfl, ?_⟩
  have e : callEnv fd s.heap.objs.size a = callEnv { fd with code := .ref c } s.heap.objs.size a := by rw [← hc]
  have := codeC_funcE (h h₁ hns fun b o e => hsb.extBut b o (Nat.ne_of_lt (Heap.lt_size e)) (Heap.get?_push_of_some _ e))
  rw [e] at this
  exact this
section
variable {A₀ : Around} {base h₀ : Heap} {outer : List Env} {L : Addr} {m mg mb : PySem.Str → Option Value} {news : List (Addr × Obj)} {K : Frag} {p : Program} {loose : List PySem.Str} {mean : ExcName → Option Value}
theorem code_defX {name qual : PySem.Str} {params : Arguments} {body : List Stmt} {scope : Scope} {dV kV doc pm cdv ct oc : Value} {an od : Option Addr} {osl : Array (Option Value)} {f : Addr} {args : Args} {binds : List (PySem.Str × Value)}
    (B : Below A₀ base outer h₀) (F : Fr h₀ L s.heap m) (X₀ : K.In h₀) (N : News h₀ L s.heap news) (T : Top p loose mean mg mb h₀) (hA : A.frames = some (env :: outer)) (hf : env.frame = some L) (hke : env.scope.kind = .function)
    (ho : K.lookup f = some ⟨oc, od, .func (fnOf name qual params body scope dV kV doc pm an cdv ct), osl⟩) (hcd : codeIn K cdv qual = true) (hroom : A.depth < recursionLimit)
    (hbind : BindsTo s (fnOf name qual params body scope dV kV doc pm an cdv ct) args binds) (hloc : ∀ y ∈ binds, scope.names.lookup y.1 = some .local)
    (h : ∀ g L' h₁, Fr h₀ L g m → Fr g L' h₁ (fun y => binds.reverse.lookup y) → News g L' h₁ news → Below A base (env :: outer) g → K.In g → Top p loose mean mg mb g → h₀.StaysIn g → (∀ q ∈ news, g.get? q.1 = none) →
      wpC (model prog w) (A.deeper (envOf qual scope L' f cdv)) (execs body (envOf qual scope L' f cdv))
        (fun fl s' => LeaveK h₀ L m g R (match fl with | .ret v => v | _ => .none) s')
        (fun e s' => wpAny (model prog w) (A.deeper (envOf qual scope L' f cdv)) (leaving (envOf qual scope L' f cdv) e) (fun _ s'' => R (.error e) s'') (fun e' s'' => R (.error e') s'') s')
        { s with heap := h₁, toks := s.toks + binds.length })
    (hco : scope.isCoroutine = false) (hgen : scope.isGenerator = false) (hk : scope.kind = .function)
    (hcell : ∀ x ∈ scope.names, x.2 ≠ .cell) : codeC (model prog w) A (.call (.ref f) args) R s := by
  obtain ⟨FG, BG, st, lv⟩ := groundX (R := R) B F N hA hf hke
  refine codeC_call_def (fd := fnOf name qual params body scope dV kV doc pm an cdv ct) (body := body) (binds := binds) hroom ((X₀.keeps F.keep) _ _ ho) rfl (T.nolimit.keeps F.keep) (codeRec_of (X₀.keeps F.keep) hcd) rfl hbind hcell hloc (fun h₁ hns hk₁ => ?_) hco hgen hk
  exact wpC_mono (h _ s.heap.objs.size h₁ FG ⟨hns, fun b o e => hk₁ b o (of_hideAll _ e), Nat.le_of_eq (hideAll_size _ _)⟩
    (fun p hp => ⟨hk₁ _ _ (N p hp).1, Nat.ne_of_lt (Heap.lt_size (N p hp).1), hideAll_none _ (List.mem_map_of_mem hp)⟩) BG (X₀.keeps st) (T.keeps st) st (fun q hq => hideAll_none _ (List.mem_map_of_mem hq))) (fun fl s' hl => lv _ _ hl) fun _ _ y => y
end
theorem wpC_ExprS {e : Expr} {pos : Pos} {Q : Flow → Shared → Prop} (h : wpC (model prog w) A (eval e env) (fun _ => Q .next) E s)
    (hi : interactive env = false) (hs : swapsWith e none pos.line env = pure false) :
    wpC (model prog w) A (exec (.Expr e pos) env) Q E s := by
  rw [exec_Expr env e pos hi hs]
  exact wpC_bindA (wpAny_standAt (wpC_bind (wpC_mono h (fun v s' h' => wpC_any (wpAny_dropValue h')) fun _ _ x => x)))
theorem wpC_Return {e : Expr} {pos : Pos} {Q : Flow → Shared → Prop} (h : wpC (model prog w) A (eval e env) (fun v => Q (.ret v)) E s) :
    wpC (model prog w) A (exec (.Return (some e) pos) env) Q E s := by
  rw [exec_Return_some]
  exact wpC_bindA (wpAny_standAt (wpC_bind (wpC_mono h (fun v s' h' => wpC_pure h') fun _ _ x => x)))
theorem wpC_BinL {l r : Expr} {op : Operator} {pos : Pos} {Q : Value → Shared → Prop} (h : wpC (model prog w) A (eval l env) (fun _ _ => False) E s) :
    wpC (model prog w) A (eval (.BinOp l op r pos) env) Q E s := by
  rw [eval_BinOp]
  exact wpC_bind (wpC_mono h (fun _ _ h' => h'.elim) fun _ _ x => x)
theorem wpC_Not {x : Expr} {pos : Pos} {t : Sem Value} {Q : Bool → Shared → Prop} (h : wpC (model prog w) A (isTrue x env (eval x env)) (fun b s₁ => Q (!b) s₁) E s) :
    wpC (model prog w) A (isTrue (.UnaryOp .Not x pos) env t) Q E s := by
  rw [arm_isTrue_UnaryOp]
  exact wpC_bind (wpC_mono h (fun b s' h' => wpC_pure h') fun _ _ x => x)
theorem wpC_Try {body orelse : List Stmt} {h₀ : ExceptHandler} {hs : List ExceptHandler} {pos : Pos} {Q : Flow → Shared → Prop}
    (h : wpC (model prog w) A (execs body env) (fun _ _ => False)
      (fun e s₁ => wpAny (model prog w) A (noteFrame e env) (fun _ s₂ => wpAny (model prog w) A (setFlight e none) (fun _ s₃ => wpAny (model prog w) A (handleBy e env (h₀ :: hs)) Q E s₃) E s₂) E s₁) s) :
    wpC (model prog w) A (exec (.Try body (h₀ :: hs) orelse [] pos) env) Q E s := by
  rw [arm_exec_Try]
  refine wpC_bindA (wpAny_standAt ?_)
  unfold tryStmt
  simp only [List.isEmpty_nil, if_true, List.isEmpty_cons, Bool.false_and, Bool.false_eq_true, if_false]
  refine wpC_bind (wpC_attempt (wpC_mono h (fun f s₁ h₁ => h₁.elim) fun e s₁ h₁ => ?_))
  exact wpC_any (wpAny_bind (wpAny_mono h₁ (fun _ _ h₂ => wpAny_bind h₂) fun _ _ x => x))
theorem codeC_loop {c : Code} (hd : decFree c = true) (hq : c.quiet = true) (I : Nat → Shared → Prop)
   (turn : ∀ n s, I n s → wpC (model prog w) (A.under c) ((model prog w).den c) (fun fin s' => match fin with | .done f => R (.ok f) s' | .again c' => c' = c ∧ ∃ m, m < n ∧ I m s') (fun e s' => R (.error e) s') s) :
   ∀ n s, I n s → codeC (model prog w) A c R s := by
  intro n
  induction n using Nat.strongRecOn with
  | _ n ih =>
    intro s hI
    refine codeC_of_tree hd (wpC_mono (turn n s hI) (fun fin s' h' => ?_) fun _ _ x => x)
    cases fin with
    | done f => exact h'
    | again c' =>
      obtain ⟨rfl, m, hm, hI'⟩ := h'
      exact ⟨hq, ih m hm s' hI'⟩
end
end Mine
namespace Mine
def Stop (P : Prop) : Prop := P
theorem Stop.mk {P : Prop} (h : P) : Stop P := h
theorem wpC_stop {α : Type} {M : Model} {A : Around} {t : Sem α} {Q : α → Shared → Prop} {E : Value → Shared → Prop} {s : Shared} (h : wpAny M A t (fun v s' => Stop (Q v s')) E s) : wpC M A t Q E s := wpC_any h
theorem wpA_stop {α : Type} {M : Model} {A : Around} {t : Sem α} {Q : α → Shared → Prop} {E : Value → Shared → Prop} {s : Shared} (h : wpAny M A t (fun v s' => Stop (Q v s')) E s) : wpAny M A t Q E s := h
end Mine
end
section
open PySem PySem.W PyProof.Rows PySem.Calls
set_option Elab.async false
set_option maxRecDepth 100000
namespace Mine
section
variable {prog : Program} {w : World} {A : Around} {E : Value → Shared → Prop} {s : Shared} {R : Result → Shared → Prop} {env : Env} {h₀ : Heap}
theorem fr_ext {h h' : Heap} {L I : Addr} {m : PySem.Str → Option Value} (F : Fr h₀ L h m) (hk : Heap.ExtBut I h h') (hL : L ≠ I) (hI : h₀.get? I = none) : Fr h₀ L h' m :=
  ⟨F.ns.at' fun o e => hk L o hL e, fun b o e => hk b o (fun q => by rw [q, hI] at e; cases e) (F.keep b o e), F.above⟩
theorem loopC {x : PySem.Str} {px : Pos} {body : List Stmt} {I l : Addr} {vs : List Value} {ns : List Int} {ol : Obj} (hh : A.handled = none) (hi : IntsAre vs ns) (hx : env.kindOf x = some .local)
    (hp : (env.scope.kind == .class || (env.scope.kind == .module && env.locals != env.globals)) = false) (hcl : ol.cls = .type "list") (hdl : ∃ n, ol.data = .seq vs.toArray n) (hIl : l ≠ I)
    (turn : ∀ (n : Int) (t : Tok) (m₁ : PySem.Str → Option Value) (h : Heap) (tk : Nat) (o : Obj), Fr h₀ env.locals h (fun y => if y = x then some (.int n t) else m₁ y) → News h₀ env.locals h [(I, o), (l, ol)] →
      wpC (model prog w) A (execs body env) (fun fl s' => fl = .next ∧ ∃ h' tk' m', s' = { s with heap := h', toks := tk' } ∧ Fr h₀ env.locals h' m' ∧ News h₀ env.locals h' [(I, o), (l, ol)]) (fun _ _ => False) { s with heap := h, toks := tk })
    (done : ∀ m₁ h tk, Fr h₀ env.locals h m₁ → R (.ok .next) { s with heap := h, toks := tk }) :
    ∀ (k i : Nat) (m : PySem.Str → Option Value) (h : Heap) (tk : Nat) (o : Obj), ns.length - i = k → i ≤ ns.length → Fr h₀ env.locals h m → News h₀ env.locals h [(I, o), (l, ol)] → o.cls = .type "list_iterator" → o.data = .fields #[.ref l, .int i 0] →
      codeC (model prog w) A (.forLoop (.Name x px) (.ref I) body [] env) R { s with heap := h, toks := tk } := by
  have hlen : vs.length = ns.length := hi.length
  intro k
  induction k with
  | zero =>
    intro i m h tk o hk hle F N hc hd
    have hi0 : i = ns.length := by omega
    subst hi0
    obtain ⟨hI1, hI2, hI3⟩ := N (I, o) (.head _)
    obtain ⟨hl1, hl2, hl3⟩ := N (l, ol) (.tail _ (.head _))
    refine codeC_of_tree rfl ?_
    rw [Around.under_of_weight rfl]
    show wpC _ A ((forTurn (.Name x px) (.ref I) body [] env).onRaise _) _ _ _
    refine wpC_onRaise ?_
    unfold forTurn
    refine wpC_bindA (wpAny_standAt ?_)
    refine wpC_bind (wpC_onRaise (wpC_any (wpAny_pyNext_list_end (items := vs.toArray) hh ⟨o, hI1, hc, hd⟩ ⟨ol, hl1, hcl, hdl⟩ (by simp [hlen]) fun h' he => ?_)))
    dsimp only
    refine wpC_pure ⟨rfl, codeC_any (codeAny_block (wpAny_execs_nil ?_))⟩
    exact done m h' tk (fr_ext F he (fun e => hI2 e.symm) hI3)
  | succ k ih =>
    intro i m h tk o hk hle F N hc hd
    have hlt : i < ns.length := by omega
    obtain ⟨hI1, hI2, hI3⟩ := N (I, o) (.head _)
    obtain ⟨hl1, hl2, hl3⟩ := N (l, ol) (.tail _ (.head _))
    obtain ⟨v, hv⟩ : ∃ v, vs[i]? = some v := ⟨vs[i]'(by omega), List.getElem?_eq_getElem (by omega)⟩
    obtain ⟨n, t, rfl, hn⟩ := IntsAre.at hi i v hv
    refine codeC_of_tree rfl ?_
    rw [Around.under_of_weight rfl]
    show wpC _ A ((forTurn (.Name x px) (.ref I) body [] env).onRaise _) _ _ _
    refine wpC_onRaise ?_
    unfold forTurn
    refine wpC_bindA (wpAny_standAt ?_)
    refine wpC_bind (wpC_onRaise (wpC_any (wpAny_pyNext_list_item (items := vs.toArray) (x := .int n t) ⟨o, hI1, hc, hd⟩ ⟨ol, hl1, hcl, hdl⟩ (by simpa using hv) fun h' hit' hs => ?_)))
    dsimp only
    refine wpC_bind (wpC_of_eq (a := ()) rfl ?_)
    have F₁ : Fr h₀ env.locals h' m := fr_ext F hs.extBut (fun e => hI2 e.symm) hI3
    refine wpC_bindA (wpAny_assign_Name (wpAny_storeName_local hx F₁.ns (fun h'' hn' hs' => ?_) hp))
    have F₂ := F₁.set hn' hs'
    obtain ⟨o', ho', hc', hd'⟩ := hit'
    have N₂ : News h₀ env.locals h'' [(I, o'), (l, ol)] := by
      intro p hp'
      rcases List.mem_cons.mp hp' with rfl | hp'
      · exact ⟨hs'.extBut _ _ hI2 ho', hI2, hI3⟩
      · rcases List.mem_cons.mp hp' with rfl | hp'
        · exact ⟨hs'.extBut _ _ hl2 (hs.extBut _ _ hIl hl1), hl2, hl3⟩
        · cases hp'
    refine wpC_bind (wpC_mono (turn n t m h'' _ o' F₂ N₂) (fun fl s' hf => ?_) fun _ _ e => e)
    obtain ⟨rfl, h₃, tk₃, m₃, rfl, F₃, N₃⟩ := hf
    dsimp only
    exact wpC_pure ⟨rfl, ih (i + 1) m₃ h₃ tk₃ o' (by omega) hlt F₃ N₃ hc' hd'⟩
theorem wpC_ownLoop {c : Code} {Q : Flow → Shared → Prop} (h : codeC (model prog w) A c (fun r s' => match r with | .ok f => Q f s' | .error _ => False) s) : wpC (model prog w) A (runOwn c env) Q E s := by
  unfold runOwn
  refine wpC_onRaise (wpC_run ?_)
  rw [show A.mark none = A from by simp [Around.mark]]
  exact codeC_mono h fun r s' hr => hr
theorem wpC_For {x : PySem.Str} {px pos : Pos} {iter : Expr} {body : List Stmt} {Q : Flow → Shared → Prop} (hh : A.handled = none) (hx : env.kindOf x = some .local)
    (hp : (env.scope.kind == .class || (env.scope.kind == .module && env.locals != env.globals)) = false)
    (h : wpAny (model prog w) A (eval iter env) (fun xv s₁ => ∃ l vs ns ol m, xv = .ref l ∧ IntsAre vs ns ∧ ol.cls = .type "list" ∧ (∃ n, ol.data = .seq vs.toArray n) ∧ Fr h₀ env.locals s₁.heap m ∧ News h₀ env.locals s₁.heap [(l, ol)] ∧
      (∀ (I : Addr) (n : Int) (t : Tok) (m₁ : PySem.Str → Option Value) (h : Heap) (tk : Nat) (o : Obj), Fr h₀ env.locals h (fun y => if y = x then some (.int n t) else m₁ y) → News h₀ env.locals h [(I, o), (l, ol)] →
        wpC (model prog w) A (execs body env) (fun fl s' => fl = .next ∧ ∃ h' tk' m', s' = { s₁ with heap := h', toks := tk' } ∧ Fr h₀ env.locals h' m' ∧ News h₀ env.locals h' [(I, o), (l, ol)]) (fun _ _ => False) { s₁ with heap := h, toks := tk }) ∧
      (∀ m₁ h tk, Fr h₀ env.locals h m₁ → Q .next { s₁ with heap := h, toks := tk })) E s)
    (hs : ∀ x, foldedSetIterable iter env x = pure x := by intro _; rfl) :
    wpC (model prog w) A (exec (.For (.Name x px) iter body [] pos) env) Q E s := by
  rw [exec_For]
  refine wpC_bindA (wpAny_standAt ?_)
  refine wpC_bindA (wpAny_mono h (fun xv s₁ h₁ => ?_) fun _ _ e => e)
  obtain ⟨l, vs, ns, ol, m, rfl, hi, hcl, hdl, F, N, turn, done⟩ := h₁
  refine wpC_bind (wpC_of_eq (hs _) ?_)
  refine wpC_bindA (wpAny_standAt ?_)
  obtain ⟨hl1, hl2, hl3⟩ := N (l, ol) (.head _)
  refine wpC_bindA (wpAny_holding (wpAny_pyIter_list (items := vs.toArray) ⟨ol, hl1, hcl, hdl⟩ ?_))
  refine wpC_ownLoop ?_
  have hlt : l < s₁.heap.objs.size := Heap.lt_size hl1
  refine loopC (s := s₁) (l := l) (ol := ol) hh hi hx hp hcl hdl (Nat.ne_of_lt hlt) (turn _) (fun m₁ h tk F₁ => done m₁ h tk F₁) ns.length 0 m _ s₁.toks { cls := .type "list_iterator", data := .fields #[.ref l, .int 0 0] } rfl (Nat.zero_le _) (F.push _) ?_ rfl rfl
  intro p hp'
  rcases List.mem_cons.mp hp' with rfl | hp'
  · exact ⟨Heap.get?_push_size _ rfl, Ne.symm (Nat.ne_of_lt F.ns.lt), next_is_new F⟩
  · rcases List.mem_cons.mp hp' with rfl | hp'
    · exact ⟨Heap.get?_push_of_some _ hl1, hl2, hl3⟩
    · cases hp'
end
end Mine
namespace Mine
section
variable {prog : Program} {w : World} {A : Around} {E : Value → Shared → Prop} {s : Shared} {env : Env} {h₀ : Heap}
theorem wpC_For2 {x : PySem.Str} {px pos : Pos} {iter : Expr} {body : List Stmt} {Q : Flow → Shared → Prop} (hh : A.handled = none) (hx : env.kindOf x = some .local)
    (hp : (env.scope.kind == .class || (env.scope.kind == .module && env.locals != env.globals)) = false)
    (h : wpAny (model prog w) A (eval iter env) (fun xv s₁ => Stop (∃ (l : Addr) (vs : List Value) (ns : List Int) (ol : Obj) (m : PySem.Str → Option Value) (h : Heap) (tk : Nat), s₁ = { s with heap := h, toks := tk } ∧ xv = .ref l ∧ IntsAre vs ns ∧ ol.cls = .type "list" ∧ (∃ n, ol.data = .seq vs.toArray n) ∧ Fr h₀ env.locals s₁.heap m ∧ News h₀ env.locals s₁.heap [(l, ol)])) E s)
    (turn : ∀ (l : Addr) (ol : Obj) (I : Addr) (n : Int) (t : Tok) (m₁ : PySem.Str → Option Value) (h : Heap) (tk : Nat) (o : Obj), Fr h₀ env.locals h (fun y => if y = x then some (.int n t) else m₁ y) → News h₀ env.locals h [(I, o), (l, ol)] →
        wpC (model prog w) A (execs body env) (fun fl s' => fl = .next ∧ ∃ h' tk' m', s' = { s with heap := h', toks := tk' } ∧ Fr h₀ env.locals h' m' ∧ News h₀ env.locals h' [(I, o), (l, ol)]) (fun _ _ => False) { s with heap := h, toks := tk })
    (done : ∀ m₁ h tk, Fr h₀ env.locals h m₁ → Q .next { s with heap := h, toks := tk })
    (hs : ∀ x, foldedSetIterable iter env x = pure x := by intro _; rfl) : wpC (model prog w) A (exec (.For (.Name x px) iter body [] pos) env) Q E s := by
  refine wpC_For (h₀ := h₀) hh hx hp (wpAny_mono h (fun xv s₁ h₁ => ?_) fun _ _ e => e) hs
  obtain ⟨l, vs, ns, ol, m, h, tk, rfl, rfl, hi, hc, hd, F, N⟩ := h₁
  exact ⟨l, vs, ns, ol, m, rfl, hi, hc, hd, F, N, fun I n t m₁ h tk o F N => turn l ol I n t m₁ h tk o F N, fun m₁ h tk F => done m₁ h tk F⟩
end
end Mine
end
section
open PySem PySem.W PyProof.Rows PySem.Calls
set_option Elab.async false
set_option maxRecDepth 100000
namespace Mine
namespace BF
theorem slot_iter : Slot "bytearray" "__iter__" "bytearray.__iter__" :=
  .of (owner := "bytearray") (n := "__iter__") (by rw [typeLookup_type, builtinLookup_eq_fast]; kernel_rfl) (by decide +kernel) (by decide +kernel) (by decide +kernel)
    (by first | exact .inl (by decide +kernel) | exact .inr (by decide +kernel)) (by rw [isSubtype_type]; kernel_rfl)
theorem entry_iter : entryFor table "bytearray.__iter__" = some Builtin.«bytearray.__iter__» := entryFor_of_tree (by kernel_rfl)
theorem args_iter (a : Value) : argsOk "bytearray.__iter__" ⟨[a], []⟩ := by unfold argsOk; kernel_rfl
theorem slot_next : Slot "bytearray_iterator" "__next__" "bytearray_iterator.__next__" :=
  .of (owner := "bytearray_iterator") (n := "__next__") (by rw [typeLookup_type, builtinLookup_eq_fast]; kernel_rfl) (by decide +kernel) (by decide +kernel) (by decide +kernel)
    (by first | exact .inl (by decide +kernel) | exact .inr (by decide +kernel)) (by rw [isSubtype_type]; kernel_rfl)
theorem slot_self : Slot "bytearray_iterator" "__iter__" "bytearray_iterator.__iter__" :=
  .of (owner := "bytearray_iterator") (n := "__iter__") (by rw [typeLookup_type, builtinLookup_eq_fast]; kernel_rfl) (by decide +kernel) (by decide +kernel) (by decide +kernel)
    (by first | exact .inl (by decide +kernel) | exact .inr (by decide +kernel)) (by rw [isSubtype_type]; kernel_rfl)
theorem entry_next : entryFor table "bytearray_iterator.__next__" = some Builtin.«bytearray_iterator.__next__» := entryFor_of_tree (by kernel_rfl)
theorem entry_self : entryFor table "bytearray_iterator.__iter__" = some Builtin.«dict_keyiterator.__iter__» := entryFor_alias (id' := "dict_keyiterator.__iter__") (by kernel_rfl) rfl (by decide +kernel) (by kernel_rfl)
theorem args_next (a : Value) : argsOk "bytearray_iterator.__next__" ⟨[a], []⟩ := by unfold argsOk; kernel_rfl
theorem args_self (a : Value) : argsOk "bytearray_iterator.__iter__" ⟨[a], []⟩ := by unfold argsOk; kernel_rfl
end BF
def IsBaIter (h : Heap) (a D : Addr) (i : Nat) : Prop := ∃ o, h.get? a = some o ∧ o.cls = .type "bytearray_iterator" ∧ o.data = .fields #[.ref D, .int i 0]
section
variable {prog : Program} {w : World} {A : Around} {E : Value → Shared → Prop} {s : Shared} {b : Array UInt8} {t : Tok} {D : Addr}
theorem ba_iter_type {a : Addr} {i : Nat} (y : IsBaIter s.heap a D i) : s.TypeIs (.ref a) "bytearray_iterator" := let ⟨o, ho, hc, _⟩ := y; ⟨o, ho, hc⟩
theorem pyIter_ba {Q : Value → Shared → Prop} (hD : s.heap.get? D = some (baO b)) (hQ : Q (.ref s.heap.objs.size) { s with heap := s.heap.push { cls := .type "bytearray_iterator", data := .fields #[.ref D, .int 0 0] } }) : wpAny (model prog w) A (pyIter (.ref D)) Q E s := by
  have hT : s.TypeIs (.ref D) "bytearray" := ⟨_, hD, rfl⟩
  refine wpAny_pyIter_slot hT BF.slot_iter (wpAny_call_entry BF.slot_iter hT BF.entry_iter ?_ (BF.args_iter _))
  show wpAny _ _ (do ret (← newFields "bytearray_iterator" [.ref D, rawInt 0])) _ _ s
  exact wpAny_bind (wpAny_newObj_type (wpAny_pure ⟨_, rfl, "bytearray_iterator", _, ⟨_, Heap.get?_push_size _ rfl, rfl⟩, BF.slot_next.lookup, hQ⟩))
theorem ba_self {it : Addr} {i : Nat} {Q : Value → Shared → Prop} (hit : IsBaIter s.heap it D i) (h : Q (.ref it) s) : wpAny (model prog w) A (pyIter (.ref it)) Q E s := by
  refine wpAny_pyIter_slot (ba_iter_type hit) BF.slot_self (wpAny_call_entry BF.slot_self (ba_iter_type hit) BF.entry_self ?_ (BF.args_self _))
  show wpAny _ _ (ret (.ref it)) _ _ s
  exact wpAny_pure ⟨_, rfl, "bytearray_iterator", _, ba_iter_type hit, BF.slot_next.lookup, h⟩
theorem ba_item {it : Addr} {i : Nat} {c : UInt8} {Q : Option Value → Shared → Prop} (hit : IsBaIter s.heap it D i) (hD : s.heap.get? D = some (baO b)) (hx : b[i]? = some c)
    (hQ : ∀ h', IsBaIter h' it D (i + 1) → Heap.SameBut it s.heap h' → Q (some (.int (c.toNat : Int) s.toks)) { s with heap := h', toks := s.toks + 1 }) : wpAny (model prog w) A (pyNext (.ref it)) Q E s := by
  obtain ⟨o, ho, hc, hd⟩ := id hit
  unfold pyNext
  refine wpAny_bind (wpAny_attempt (wpAny_callSpecial?_slot (name := PySem.Str.ofString "__next__") (ba_iter_type hit) BF.slot_next
    (wpAny_call_entry BF.slot_next (ba_iter_type hit) BF.entry_next ?_ (BF.args_next _))))
  show wpAny _ _ (field (.ref it) 0 >>= _) _ _ s
  refine wpAny_bind (wpAny_field ho hd (x := .ref D) rfl ?_)
  refine wpAny_bind (wpAny_load hD ?_)
  show wpAny _ _ (field (.ref it) 1 >>= _) _ _ s
  refine wpAny_bind (wpAny_field ho hd (x := .int i 0) rfl ?_)
  simp only [Int.toNat_natCast, hx]
  refine wpAny_bind (wpAny_setField ho hd (by simp) (wpAny_bind (wpAny_mkInt (wpAny_pure ⟨_, rfl, wpAny_pure (hQ _ ?_ (Heap.SameBut.update ..))⟩))))
  exact ⟨_, Heap.get?_update_self _ ho (Obj.isFreed_of_fields (Obj.data_mapFields hd _)), (Obj.cls_mapFields ..).trans hc, by
    rw [Obj.data_mapFields hd]; simp [rawInt]⟩
theorem ba_end {it : Addr} {i : Nat} {Q : Option Value → Shared → Prop} (hh : A.handled = none) (hit : IsBaIter s.heap it D i) (hD : s.heap.get? D = some (baO b)) (hx : b[i]? = none)
    (hQ : ∀ h', Heap.ExtBut it s.heap h' → Q none { s with heap := h' }) : wpAny (model prog w) A (pyNext (.ref it)) Q E s := by
  obtain ⟨o, ho, hc, hd⟩ := id hit
  unfold pyNext
  refine wpAny_bind (wpAny_attempt (wpAny_callSpecial?_slot (name := PySem.Str.ofString "__next__") (ba_iter_type hit) BF.slot_next
    (wpAny_call_entry BF.slot_next (ba_iter_type hit) BF.entry_next ?_ (BF.args_next _))))
  show wpAny _ _ (field (.ref it) 0 >>= _) _ _ s
  refine wpAny_bind (wpAny_field ho hd (x := .ref D) rfl ?_)
  refine wpAny_bind (wpAny_load hD ?_)
  show wpAny _ _ (field (.ref it) 1 >>= _) _ _ s
  refine wpAny_bind (wpAny_field ho hd (x := .int i 0) rfl ?_)
  simp only [Int.toNat_natCast, hx]
  refine wpAny_bind (wpAny_rule (wpAny_bind (wpAny_setField ho hd (by simp) ?_)))
  refine wpAny_bind (wpAny_letGo ?_)
  show wpAny _ _ (newExc (.type "StopIteration") [] >>= _) _ _ _
  refine wpAny_bind ?_
  simp only [newExc, newTuple]
  refine wpAny_bind (wpAny_newObj_type ?_ (by size_fits))
  refine wpAny_bind (m := firstArgMember _ _) (wpAny_of_eq (a := Value.none) (by first | rfl | (simp only [firstArgMember]; rfl)) ?_)
  refine wpAny_newObj_type ?_ (by size_fits)
  simp only [raiseNew]
  refine wpAny_bind (wpAny_handled ?_)
  rw [show A.in1.handled = none from hh]
  refine wpAny_bind (wpAny_pure (wpAny_throw ?_))
  refine wpAny_bind (wpAny_isInstance (T := "StopIteration") (b := true) ⟨_, Heap.get?_push_size _ rfl, rfl⟩ isSubtype_stop ?_)
  exact wpAny_pure (hQ _ (((Heap.SameBut.update ..).extBut.push _).push _))
theorem ba_walks (hh : A.handled = none) {I : Addr} (hID : D ≠ I) {ks : List Int} (hk : KBw.bInts b = ks) :
    Walks prog w A I [I, D] [I] ks.length (fun i v => ∃ t, v = .int (ks.getD i 0) t) (fun i h => IsBaIter h I D i ∧ h.get? D = some (baO b)) where
  sub := fun b hb => by rw [List.mem_singleton.mp hb]; exact .head _
  frame := fun _ _ _ ⟨⟨o, ho, r⟩, hD⟩ hk => ⟨⟨o, hk I (by simp) o ho, r⟩, hk D (by simp) _ hD⟩
  item := fun i s Q E hi st hQ => by
    have hi' : i < b.size := by rw [← KBw.ints_length, hk]; exact hi
    refine ba_item st.1 st.2 (c := b[i]) (by simp [hi']) fun h' hit' hs' => ?_
    refine hQ _ h' (s.toks + 1) ⟨s.toks, ?_⟩ ⟨hit', hs'.extBut _ _ hID st.2⟩ fun b o hb e => hs'.extBut b o (fun h => hb (by simp [h])) e
    rw [← hk, List.getD_eq_getElem?_getD, KBw.ints_get (c := b[i]) (by simp [hi'])]; rfl
  done := fun s Q E st hQ => by
    have hi' : b.size = ks.length := by rw [← KBw.ints_length, hk]
    exact ba_end hh st.1 st.2 (by simp [hi']) fun h' he' => hQ h' s.toks fun b o hb e => he' b o (fun h => hb (by simp [h])) e
  self := fun _ _ _ _ st hQ => ba_self st.1 hQ
theorem by_walks (hh : A.handled = none) {I : Addr} {ks : List Int} (hk : KBw.bInts b = ks) :
    Walks prog w A I [I] [I] ks.length (fun i v => ∃ t, v = .int (ks.getD i 0) t) (fun i h => KBw.IsBytesIter h I b t i) :=
  have W := KBw.walks (prog := prog) (w := w) hh I b t
  have hl : b.size = ks.length := by rw [← KBw.ints_length, hk]
  { sub := W.sub, frame := W.frame, self := W.self
    item := fun i s Q E hi st hQ => W.item i s Q E (by omega) st fun v h' tk hP => hQ v h' tk (by
      obtain ⟨c, u, hc, rfl⟩ := hP
      refine ⟨u, ?_⟩
      rw [← hk, List.getD_eq_getElem?_getD, KBw.ints_get hc]; rfl)
    done := fun s Q E st hQ => W.done s Q E (by rw [hl]; exact st) hQ }
end
section
variable {prog : Program} {w : World} {A : Around} {E : Value → Shared → Prop} {s : Shared} {h₀ : Heap} {L : Addr} {m : PySem.Str → Option Value} {env : Env}
theorem comp_bytes {elt iter : Expr} {x : PySem.Str} {px : Pos} {scope : Scope} {cl : List (PySem.Str × Addr)} {pos : Pos} {Q : Value → Shared → Prop} (_F₀ : Fr h₀ L s.heap m)
    (hclos : closureFor scope env = pure cl) (hcell : ∀ y ∈ scope.names, y.2 ≠ .cell) (hkind : scope.kind = .function)
    (hnames : ∀ y ∈ scope.names, y.2 = .local → scope.names.lookup y.1 = some .local) (hx : scope.names.lookup x = some .local)
    (h : wpAny (model prog w) A (eval iter env) (fun xv s₁ => ∃ b t ks news, xv = .bytes b t ∧ KBw.bInts b = ks ∧ A.handled = none ∧ Fr h₀ L s₁.heap m ∧ News h₀ L s₁.heap news ∧ ks.length ≤ sizeLine ∧
      ∀ g, LCg.CompRest prog w A h₀ L m env elt x scope cl { s₁ with heap := g } (fun _ => True) (fun i v => ∃ t, v = .int (ks.getD i 0) t) (LCg.FinE h₀ L m { s₁ with heap := g } Q) ks.length 0 [] news) E s)
    (hs : ∀ x, foldedSetIterable iter env x = pure x := by intro _; rfl) :
    wpAny (model prog w) A (eval (.ListComp elt [⟨.Name x px, iter, [], 0⟩] scope pos) env) Q E s := by
  rw [eval_ListComp]
  refine wpAny_comprehension_free (use := none) rfl hs hclos hkind hnames (wpAny_mono h (fun xv s₁ h₁ => ?_) fun _ _ e => e)
  obtain ⟨b, t, ks, news, rfl, hk, hh, F, N, hsz, R⟩ := h₁
  refine KBw.pyIter_bytes ?_
  have up : ∀ a o, s₁.heap.get? a = some o → (s₁.heap.push { cls := .type "bytes_iterator", data := .fields #[.bytes b t, .int 0 0] }).get? a = some o := fun a o e => Heap.get?_push_of_some _ e
  refine LCg.block_U (by_walks hh (I := s₁.heap.objs.size) (b := b) (t := t) hk) hsz (fun i h st => by obtain ⟨o, e, _⟩ := st; exact ⟨o, e⟩) (fun i h h' o nw st e e' _ _ _ => by
      obtain ⟨o', q, r⟩ := st; rw [e] at q; cases q; exact ⟨o, e', r⟩) hcell hkind hx ⟨_, Heap.get?_push_size _ rfl, rfl, rfl⟩ (fun a ha => ?_)
    (F.keeps up) (N.grown up) (Nat.ne_of_lt F.ns.lt) (next_is_new F) (fun p hp => Nat.ne_of_lt (Heap.lt_size (N p hp).1)) trivial (R _) ?_
  · show a < (s₁.heap.push _).objs.size
    rw [Heap.size_push, List.mem_singleton.mp ha]; exact Nat.lt_succ_self _
  · intro D C h tk m' ys news' F' N' o1 hn hC₀ hD₀ hCL hDL hCD offC fin
    refine ⟨m', hn, fun h'' hs'' => fin D h'' tk (F'.change hs'' hCL hC₀) (fun p hp => ?_) o1⟩
    refine ⟨hs''.extBut _ _ ?_ (N' p hp).1, (N' p hp).2⟩
    rcases List.mem_cons.mp hp with rfl | hp
    · exact Ne.symm hCD
    · exact offC p hp
theorem comp_ba {elt iter : Expr} {x : PySem.Str} {px : Pos} {scope : Scope} {cl : List (PySem.Str × Addr)} {pos : Pos} {Q : Value → Shared → Prop} (_F₀ : Fr h₀ L s.heap m)
    (hclos : closureFor scope env = pure cl) (hcell : ∀ y ∈ scope.names, y.2 ≠ .cell) (hkind : scope.kind = .function)
    (hnames : ∀ y ∈ scope.names, y.2 = .local → scope.names.lookup y.1 = some .local) (hx : scope.names.lookup x = some .local)
    (h : wpAny (model prog w) A (eval iter env) (fun xv s₁ => ∃ D b ks news, xv = .ref D ∧ (D, baO b) ∈ news ∧ KBw.bInts b = ks ∧ A.handled = none ∧ Fr h₀ L s₁.heap m ∧ News h₀ L s₁.heap news ∧ ks.length ≤ sizeLine ∧
      ∀ g, LCg.CompRest prog w A h₀ L m env elt x scope cl { s₁ with heap := g } (fun nw => (D, baO b) ∈ nw) (fun i v => ∃ t, v = .int (ks.getD i 0) t) (LCg.FinE h₀ L m { s₁ with heap := g } Q) ks.length 0 [] news) E s)
    (hs : ∀ x, foldedSetIterable iter env x = pure x := by intro _; rfl) :
    wpAny (model prog w) A (eval (.ListComp elt [⟨.Name x px, iter, [], 0⟩] scope pos) env) Q E s := by
  rw [eval_ListComp]
  refine wpAny_comprehension_free (use := none) rfl hs hclos hkind hnames (wpAny_mono h (fun xv s₁ h₁ => ?_) fun _ _ e => e)
  obtain ⟨D, b, ks, news, rfl, hDm, hk, hh, F, N, hsz, R⟩ := h₁
  have hD := (N _ hDm).1
  refine pyIter_ba hD ?_
  have up : ∀ a o, s₁.heap.get? a = some o → (s₁.heap.push { cls := .type "bytearray_iterator", data := .fields #[.ref D, .int 0 0] }).get? a = some o := fun a o e => Heap.get?_push_of_some _ e
  refine LCg.block_U (ba_walks hh (I := s₁.heap.objs.size) (D := D) (b := b) (Nat.ne_of_lt (Heap.lt_size hD)) hk) hsz (fun i h st => by obtain ⟨o, e, _⟩ := st.1; exact ⟨o, e⟩) (fun i h h' o nw st e e' _ N' S => by
      obtain ⟨⟨o', q, r⟩, _⟩ := st; rw [e] at q; cases q; exact ⟨⟨o, e', r⟩, (N' _ S).1⟩) hcell hkind hx ⟨⟨_, Heap.get?_push_size _ rfl, rfl, rfl⟩, up _ _ hD⟩ (fun a ha => ?_)
    (F.keeps up) (N.grown up) (Nat.ne_of_lt F.ns.lt) (next_is_new F) (fun p hp => Nat.ne_of_lt (Heap.lt_size (N p hp).1)) hDm (R _) ?_
  · show a < (s₁.heap.push _).objs.size
    rw [Heap.size_push]
    rcases List.mem_cons.mp ha with rfl | ha
    · exact Nat.lt_succ_self _
    · rw [List.mem_singleton.mp ha]; exact Nat.lt_succ_of_lt (Heap.lt_size hD)
  · intro D' C h tk m' ys news' F' N' o1 hn hC₀ hD₀ hCL hDL hCD offC fin
    refine ⟨m', hn, fun h'' hs'' => fin D' h'' tk (F'.change hs'' hCL hC₀) (fun p hp => ?_) o1⟩
    refine ⟨hs''.extBut _ _ ?_ (N' p hp).1, (N' p hp).2⟩
    rcases List.mem_cons.mp hp with rfl | hp
    · exact Ne.symm hCD
    · exact offC p hp
end
end Mine
end
section
open PySem PySem.W PyProof.Rows PySem.Calls
set_option Elab.async false
set_option maxRecDepth 100000
namespace Mine
section
variable {prog : Program} {w : World} {A : Around} {E : Value → Shared → Prop} {s : Shared}
theorem from_bad {x : PySem.Str} {t : Tok} {text : List Nat} {Q : Value → Shared → Prop} (hh : A.handled = none) (hl : (text.takeWhile (· != 0)).length ≤ 640) (hn : (int_private% "readNumeral") 0 10 (text.takeWhile (· != 0)) = int_private% "Numeral.invalid")
   (hr : (reprText x).length ≤ sizeLine)
   (hm : (PySem.Str.ofString (toString "invalid literal for int() with base " ++ toString 10 ++ toString ": ") ++ ({ cps := (reprText x).cps.extract 0 200 } : PySem.Str)).length ≤ sizeLine)
   (hE : ∀ h' tk e, Heap.NewExc s.heap h' e "ValueError" → E (.ref e) { s with heap := h', toks := tk }) :
   wpC (model prog w) A ((int_private% "intFromText") (.str x t) text 10) Q E s := by
  show wpC _ _ (if (text.takeWhile (· != 0)).length ≤ 640 then _ else _) _ _ _
  rw [if_pos hl]
  refine wpC_bind (wpC_pure ?_)
  dsimp only
  rw [hn]
  refine wpC_bind (wpC_of_eq (a := (none : Option (Array UInt8))) rfl ?_)
  refine wpC_if_false rfl ?_
  refine wpC_bindA (wpAny_rule ?_)
  refine wpC_bind (wpC_of_eq (a := (none : Option (Array UInt8))) rfl ?_)
  refine wpC_bindA (wpAny_pyRepr_str ?_ hr)
  refine wpC_bindA (wpAny_mkStr ?_ ?_)
  rotate_left
  · first | (with_reducible exact hm) | exact hm
  unfold newExc newTuple
  refine wpC_bindA (wpAny_bind (wpAny_newObj_type ?_))
  refine wpAny_bind (m := firstArgMember _ _) (wpAny_of_eq (a := Value.none) (by simp only [firstArgMember, plainExc_ValueError.first]; rfl) ?_)
  rw [plainExc_ValueError.own]
  refine wpAny_newObj_type ?_
  refine wpC_bind (mark_clean ?_)
  refine wpC_any ?_
  unfold raiseNew
  refine wpAny_bind (wpAny_handled ?_)
  rw [hh]
  refine wpAny_bind (wpAny_pure (wpAny_throw ?_))
  exact hE _ _ _ ⟨fun b o hb => Heap.get?_push_of_some _ (Heap.get?_push_of_some _ hb), Heap.get?_none_of_le (by simp), _, .ref s.heap.objs.size, Heap.get?_push_size _ rfl, rfl, by simp⟩
theorem free_intnew {args : Args} : decFree (.builtin "int.__new__" args) = true := by unfold decFree; dsimp only; decide +kernel
theorem sp_str {x : PySem.Str} {t : Tok} {name : PySem.Str} {r : Option Value} (h : typeLookup (.type "str") name = pure r) : specialOf (.str x t) name = pure r := by
  have e : specialOf (.str x t) name = typeLookup (.type "str") name := rfl
  rw [e, h]
theorem int_new_bad {x : PySem.Str} {t : Tok} {Q : PySem.Fin → Shared → Prop} (hh : A.handled = none) (hl : (numSeenOf x).length ≤ 640) (hn : (int_private% "readNumeral") 0 10 (numSeenOf x) = int_private% "Numeral.invalid")
   (hr : (reprText x).length ≤ sizeLine)
   (hm : (PySem.Str.ofString (toString "invalid literal for int() with base " ++ toString 10 ++ toString ": ") ++ ({ cps := (reprText x).cps.extract 0 200 } : PySem.Str)).length ≤ sizeLine)
   (hE : ∀ h' tk e, Heap.NewExc s.heap h' e "ValueError" → E (.ref e) { s with heap := h', toks := tk }) :
   wpC (model prog w) A (Builtin.«int.__new__» ⟨[.type "int", .str x t], []⟩) Q E s := by
  unfold Builtin.«int.__new__»
  dsimp only
  refine wpC_bind (wpC_of_eq (a := true) rfl ?_)
  refine wpC_if_false rfl ?_
  refine wpC_bind (wpC_of_eq F.conv_sub_int ?_)
  refine wpC_if_false rfl ?_
  refine wpC_bind (wpC_of_eq F.madeHere_int ?_)
  refine wpC_if_false rfl ?_
  refine wpC_eq (if_neg (by simp)) ?_
  refine wpC_bind (wpC_of_eq (a := PUnit.unit) rfl ?_)
  show wpC _ _ ((int_private% "intFromObject") (.str x t) >>= _) _ _ _
  refine wpC_bind ?_
  show wpC _ _ (callSpecial? (.str x t) "__int__" >>= _) _ _ _
  refine wpC_bind (wpC_of_eq (a := none) (by simp only [callSpecial?, sp_str KIN.str_int]; rfl) ?_)
  dsimp only
  refine wpC_bind (wpC_of_eq (sp_str KIN.str_idx) ?_)
  refine wpC_if_false rfl ?_
  refine wpC_bind (wpC_of_eq (sp_str KIN.str_trunc) ?_)
  dsimp only
  show wpC _ _ ((int_private% "numeralText?") (.str x t) >>= _) _ _ _
  refine wpC_bind (wpC_of_eq (a := some (numTextOf x)) rfl ?_)
  dsimp only
  refine from_bad hh hl hn hr hm hE
theorem int_typecall_bad {x : PySem.Str} {t : Tok} {Q : Value → Shared → Prop} (hh : A.handled = none) (hl : (numSeenOf x).length ≤ 640) (hn : (int_private% "readNumeral") 0 10 (numSeenOf x) = int_private% "Numeral.invalid")
   (hr : (reprText x).length ≤ sizeLine)
   (hm : (PySem.Str.ofString (toString "invalid literal for int() with base " ++ toString 10 ++ toString ": ") ++ ({ cps := (reprText x).cps.extract 0 200 } : PySem.Str)).length ≤ sizeLine)
   (hE : ∀ h' tk e, Heap.NewExc s.heap h' e "ValueError" → E (.ref e) { s with heap := h', toks := tk }) :
   wpC (model prog w) A (call (.type "int") [.str x t]) Q E s := by
  obtain ⟨c, tl, hmro⟩ := F.called_int.mro
  have hmade := F.called_int.made
  refine wpC_call (codeC_of_tree rfl ?_)
  show wpC _ _ (callAny (.type "int") _) _ _ _
  refine wpC_pure ⟨Code.quiet_builtin _ (by decide +kernel), codeC_builtin PySem.F.entry_type_call free_tcall ?_⟩
  unfold Builtin.«type.__call__»
  dsimp only
  refine wpC_if_false F.called_int.notType ?_
  refine wpC_if_false F.called_int.canCreate ?_
  refine wpC_bind (wpC_of_eq (F.typeCall_int_1 _) ?_)
  refine wpC_bind (wpC_of_eq hmro ?_)
  refine wpC_if_false rfl ?_
  refine wpC_bind (wpC_of_eq hmade ?_)
  dsimp only
  refine wpC_bind (wpC_pure ?_)
  refine wpC_bind (wpC_holding (wpC_call (codeC_of_tree rfl ?_)))
  show wpC _ _ (do checkBuiltinCall "int.__new__" ⟨[.type "int", .str x t], []⟩; again (.builtin "int.__new__" ⟨[.type "int", .str x t], []⟩)) _ _ _
  refine wpC_bind (wpC_of_eq (F.newCall_int_1 _) ?_)
  refine wpC_pure ⟨plainId_quiet F.called_int.plain _, codeC_builtin F.entry_int_new free_intnew ?_⟩
  exact int_new_bad hh hl hn hr hm fun h' tk e hx => hE h' tk e hx
end
end Mine
end
section
open PySem PySem.W PyProof.Rows
set_option Elab.async false
set_option maxRecDepth 100000
set_option maxHeartbeats 0
namespace Mine
open_top hd for PySem.Challenge.rw_fb5002_01
end Mine
end
section
open PySem PySem.W PyProof.Rows PySem.Calls
set_option Elab.async false
set_option maxRecDepth 100000
namespace Mine
abbrev PR : Program := PySem.Challenge.rw_fb5002_01.row.prog
abbrev LS : List PySem.Str := [PySem.Str.ofString "btox", PySem.Str.ofString "xtob", PySem.Str.ofString "ethernet_re", PySem.Str.ofString "old_hex_re", PySem.Str.ofString "net_old_hex_re", PySem.Str.ofString "combined_pattern", PySem.Str.ofString "Address"]
abbrev Claim (w : World) (mean : ExcName → Option Value) (mg mb : PySem.Str → Option Value) (f : Addr) (news : List (Addr × Obj)) (vs : List Value)
    (k : Nat) (post : Heap → Addr → (PySem.Str → Option Value) → Shared → (Value → Shared → Prop) → Prop) : Prop :=
  ∀ (dp un : Nat) (gd : Option (List Code)) (cn : PySem.Str) (cs : Scope) (a : Addr) (ccd : Value) (cl : List (PySem.Str × Addr)) (outer : List Env) (A₀ : Around) (base h₀ : Heap) (L : Addr) (m : PySem.Str → Option Value) (s : Shared) (Q E : Value → Shared → Prop),
    Below A₀ base outer h₀ → Fr h₀ L s.heap m → (hd.heap_39 w.params).In h₀ → News h₀ L s.heap news → Top hd.view_39 (looseW hd.view_39 LS) mean mg mb h₀ → cs.kind = .function →
    dp + k < recursionLimit → un + 40 * k < cLine → post h₀ L m s Q →
      wpAny (model PR w) (ktrTop dp un gd cn cs L a ccd cl outer) (call (.ref f) vs) Q E s
abbrev Gives1 (news : List (Addr × Obj)) (R : Tok → Value) (h₀ : Heap) (L : Addr) (m : PySem.Str → Option Value) (s : Shared) (Q : Value → Shared → Prop) : Prop :=
  ∀ (t : Tok) (h' : Heap) (tk' : Nat), Fr h₀ L h' m → News h₀ L h' news → Q (R t) { s with heap := h', toks := tk' }
abbrev num (n : Int) : PySem.Str := PySem.Str.ofString (toString n)
abbrev dots (a b c d : Int) : PySem.Str := PySem.Txt.join (PySem.Str.ofString ".") [num a, num b, num c, num d]
theorem num_len {n : Int} (h0 : 0 ≤ n) (h1 : n < 1000000000) : (num n).length ≤ 100 := by
  rw [PySem.ofString_length]
  exact Nat.le_trans (PySem.int_text_length_le10 (k := 10) (by decide) (by omega)) (by decide)
section
variable {prog : Program} {w : World} {A : Around} {E : Value → Shared → Prop} {s : Shared}
theorem join4 {D : Addr} {x a b c d : PySem.Str} {t t1 t2 t3 t4 : Tok} {Q : Value → Shared → Prop} (hl : s.heap.IsList D [Value.str a t1, .str b t2, .str c t3, .str d t4].toArray) (hx : x.length ≤ 64)
   (ha : a.length ≤ 100000) (hb : b.length ≤ 100000) (hc : c.length ≤ 100000) (hd : d.length ≤ 100000)
   (h : ∀ t' k, Q (.str (PySem.Txt.join x [a, b, c, d]) t') { s with toks := k }) : wpAny (model prog w) A (call (.builtin "str.join") [.str x t, .ref D]) Q E s :=
  join_listC hl (.cons _ _ (.cons _ _ (.cons _ _ (.cons _ _ .nil)))) hx (by simp only [List.map_cons, List.map_nil, List.sum_cons, List.sum_nil, List.length_cons, List.length_nil]; omega) h
end
theorem fill (w : World) : (PySem.Challenge.rw_fb5002_01.row.prog = PySem.Challenge.rw_fb5002_01.row.prog) ∧ (hd.heap_39 w.params = hd.heap_39 w.params) := by
  k_fill
  exact ⟨rfl, rfl⟩
end Mine
end
section
open PySem PySem.W PyProof.Rows PySem.Calls
set_option Elab.async false
namespace Mine
theorem lt_all {d : Addr} : ∀ {l : List (Addr × Obj)}, AllLt d l → ∀ p ∈ l, p.1 < d
  | [], _ => fun p hp => nomatch hp
  | q :: r, h => fun p hp => (List.mem_cons.mp hp).elim (fun e => e ▸ h.1) (lt_all h.2 p)
theorem skip1 {h₀ h : Heap} {L : Addr} {a b : Addr × Obj} {news : List (Addr × Obj)} (N : News h₀ L h (a :: b :: news)) : News h₀ L h (a :: news) :=
  fun p hp => N p ((List.mem_cons.mp hp).elim (fun e => List.mem_cons.mpr (.inl e)) fun h => .tail _ (.tail _ h))
theorem skip2 {h₀ h : Heap} {L : Addr} {a b c : Addr × Obj} {news : List (Addr × Obj)} (N : News h₀ L h (a :: b :: c :: news)) : News h₀ L h (a :: news) := skip1 (skip1 N)
theorem drop1 {h₀ h : Heap} {L : Addr} {a : Addr × Obj} {news : List (Addr × Obj)} (N : News h₀ L h (a :: news)) : News h₀ L h news := fun p hp => N p (.tail _ hp)
end Mine
namespace Mine
abbrev AddrPost (news : List (Addr × Obj)) (x y z u p q : Int) : Heap → Addr → (PySem.Str → Option Value) → Shared → (Value → Shared → Prop) → Prop := fun h₀ L m s Q =>
  ∀ (a dx T : Addr) (es : List DictEntry) (n : Nat) (bb : Array UInt8) (t1 t2 t3 t4 t5 : Tok) (h' : Heap) (tk' : Nat), Fr h₀ L h' m →
    News h₀ L h' ((T, tupO [.str (dots x y z u) t1, .int (p * 256 + q) t2]) :: (a, instObj 160 dx) :: (dx, dictOf es n) :: news) → (∀ p ∈ news, p.1 < dx) → dx < a → a < T → KBw.bInts bb = [x, y, z, u, p, q] →
    getL (PySem.Str.ofString "addrAddr") es = some (some (.bytes bb t3)) → getL (PySem.Str.ofString "addrTuple") es = some (some (.ref T)) →
    getL (PySem.Str.ofString "addrIP") es = some (some (.int (x * 16777216 + y * 65536 + z * 256 + u) t4)) → getL (PySem.Str.ofString "addrPort") es = some (some (.int (p * 256 + q) t5)) → Q (.ref a) { s with heap := h', toks := tk' }
section
variable {h₀ h : Heap} {L : Addr} {a b c d e f g i : Addr × Obj} {news : List (Addr × Obj)}
theorem pick256 (N : News h₀ L h (a :: b :: c :: d :: e :: f :: news)) : News h₀ L h (b :: e :: f :: news) := by
  intro p hp; refine N p ?_
  simp only [List.mem_cons] at hp ⊢
  rcases hp with h | h | h | h <;> simp [h]
theorem pick278 (N : News h₀ L h (a :: b :: c :: d :: e :: f :: g :: i :: news)) : News h₀ L h (b :: g :: i :: news) := by
  intro p hp; refine N p ?_
  simp only [List.mem_cons] at hp ⊢
  rcases hp with h | h | h | h <;> simp [h]
end
end Mine
end
section
open PySem PySem.W PyProof.Rows PySem.Calls
set_option Elab.async false
set_option maxRecDepth 100000
namespace Mine
abbrev dotS : PySem.Str := PySem.Str.ofString "."
theorem dot_is : dotS = ⟨#[46]⟩ := by decide +kernel
theorem app_inj {c : Nat} : ∀ {a b u v : List Nat}, c ∉ a → c ∉ b → a ++ c :: u = b ++ c :: v → a = b ∧ u = v
  | [], [], _, _, _, _, h => ⟨rfl, (List.cons.inj h).2⟩
  | [], y :: b, _, _, _, hb, h => absurd ((List.cons.inj h).1 ▸ List.mem_cons_self ..) hb
  | x :: a, [], _, _, ha, _, h => absurd ((List.cons.inj h).1 ▸ List.mem_cons_self ..) ha
  | x :: a, y :: b, u, v, ha, hb, h => by
    obtain ⟨e1, e2⟩ := List.cons.inj h
    obtain ⟨h1, h2⟩ := app_inj (a := a) (b := b) (fun m => ha (List.mem_cons_of_mem _ m)) (fun m => hb (List.mem_cons_of_mem _ m)) e2
    exact ⟨by rw [e1, h1], h2⟩
theorem join_one (c : Nat) (a b : PySem.Str) (l : List PySem.Str) : (PySem.Str.join ⟨#[c]⟩ (a :: b :: l)).cps.toList = a.cps.toList ++ c :: (PySem.Str.join ⟨#[c]⟩ (b :: l)).cps.toList := by
  show (a ++ ⟨#[c]⟩ ++ PySem.Str.join ⟨#[c]⟩ (b :: l)).cps.toList = _
  rw [cps_toList_append, cps_toList_append]
  simp
theorem eq_of_cps {a b : PySem.Str} (h : a.cps.toList = b.cps.toList) : a = b := Str.ext' (Array.toList_inj.mp h)
theorem join_inj {c : Nat} : ∀ {l1 l2 : List PySem.Str}, l1 ≠ [] → l2 ≠ [] → (∀ p ∈ l1, c ∉ p.cps.toList) → (∀ p ∈ l2, c ∉ p.cps.toList) → PySem.Str.join ⟨#[c]⟩ l1 = PySem.Str.join ⟨#[c]⟩ l2 → l1 = l2
  | [], _, h, _, _, _, _ => absurd rfl h
  | _, [], _, h, _, _, _ => absurd rfl h
  | [a], [b], _, _, _, _, h => by rw [show a = b from h]
  | [a], b :: d :: r, _, _, h1, _, h => by
    exfalso
    refine h1 a (List.mem_cons_self ..) ?_
    have h' : a = PySem.Str.join ⟨#[c]⟩ (b :: d :: r) := h
    rw [h', join_one]
    simp
  | a :: d :: r, [b], _, _, _, h2, h => by
    exfalso
    refine h2 b (List.mem_cons_self ..) ?_
    have h' : PySem.Str.join ⟨#[c]⟩ (a :: d :: r) = b := h
    rw [← h', join_one]
    simp
  | a :: d :: r, b :: e :: q, _, _, h1, h2, h => by
    have h' := congrArg (fun x : PySem.Str => x.cps.toList) h
    rw [join_one, join_one] at h'
    obtain ⟨e1, e2⟩ := app_inj (h1 a (List.mem_cons_self ..)) (h2 b (List.mem_cons_self ..)) h'
    have ih := join_inj (l1 := d :: r) (l2 := e :: q) (by simp) (by simp) (fun p hp => h1 p (List.mem_cons_of_mem _ hp)) (fun p hp => h2 p (List.mem_cons_of_mem _ hp)) (eq_of_cps e2)
    rw [eq_of_cps e1, ih]
theorem join_is (y : PySem.Str) (l : List PySem.Str) : PySem.Txt.join y l = PySem.Str.join y l := StrLaws.glued_eq_join ..
theorem split_join {l : List PySem.Str} (hne : l ≠ []) (h : ∀ p ∈ l, 46 ∉ p.cps.toList) : PySem.Txt.split (PySem.Txt.join dotS l) dotS = l := by
  rw [dot_is, join_is]
  refine join_inj ?_ hne (StrLaws.split_free _ _) h (StrLaws.join_split _ _)
  intro e
  have := split_pos (PySem.Str.join ⟨#[46]⟩ l) ⟨#[46]⟩
  rw [e] at this
  exact absurd this (by decide)
theorem split4 {a b c d : PySem.Str} (ha : 46 ∉ a.cps.toList) (hb : 46 ∉ b.cps.toList) (hc : 46 ∉ c.cps.toList) (hd : 46 ∉ d.cps.toList) :
   PySem.Txt.split (PySem.Txt.join dotS [a, b, c, d]) dotS = [a, b, c, d] := by
  refine split_join (by simp) ?_
  intro p hp
  simp only [List.mem_cons, List.mem_nil_iff, or_false] at hp
  rcases hp with rfl | rfl | rfl | rfl <;> assumption
theorem num_free {n : Int} (h0 : 0 ≤ n) : 46 ∉ (num n).cps.toList := by
  obtain ⟨m, rfl⟩ := Int.eq_ofNat_of_zero_le h0
  rw [KIN.signs_num]
  intro hm
  obtain ⟨ch, hch, e⟩ := List.mem_map.mp hm
  have r := digit_range (Nat.isDigit_of_mem_toDigits (by decide) (by decide) hch)
  omega
theorem zn_free {n : Int} (h0 : 0 ≤ n) : 46 ∉ (PySem.Str.ofString "0" ++ num n).cps.toList := by
  rw [cps_toList_append]
  intro hm
  rcases List.mem_append.mp hm with h | h
  · revert h; decide +kernel
  · exact num_free h0 h
theorem zn_reads {n : Int} (h0 : 0 ≤ n) (h1 : n < 10 ^ 10) : PySem.intText? (PySem.Str.ofString "0" ++ num n) = some n := by
  have hl := KT.len_num h0 h1
  obtain ⟨m, rfl⟩ := Int.eq_ofNat_of_zero_le h0
  have e0 : (PySem.Str.ofString "0").cps.toList = [48] := by decide +kernel
  have e1 : (PySem.Str.ofString "0" ++ num (m : Int)).cps.toList = 48 :: (Nat.toDigits 10 m).map Char.toNat := by
    rw [cps_toList_append, e0, KIN.signs_num]; rfl
  have hd : NumText.AllDigits (PySem.Str.ofString "0" ++ num (m : Int)).cps.toList := by
    rw [e1]
    intro c hc
    rcases List.mem_cons.mp hc with rfl | hc
    · decide
    · obtain ⟨ch, hch, e⟩ := List.mem_map.mp hc
      have r := digit_range (Nat.isDigit_of_mem_toDigits (by decide) (by decide) hch)
      rw [← e]; exact r
  have hlen : (PySem.Str.ofString "0" ++ num (m : Int)).length ≤ 4300 := by
    rw [PySem.Str.length_append]
    have : (PySem.Str.ofString "0").length = 1 := by decide +kernel
    have h2 : (num (m : Int)).length ≤ 10 := hl
    omega
  have e := intText_digits hd (by rw [e1]; simp) hlen
  rw [e, e1]
  have hv : NumText.digitsVal (48 :: (Nat.toDigits 10 m).map Char.toNat) = NumText.digitsVal ((Nat.toDigits 10 m).map Char.toNat) := by
    rfl
  rw [hv, KIN.val_back]
theorem dots_len {x y z u : Int} (hin : KBa.In [x, y, z, u]) : 1 ≤ (dots x y z u).length ∧ (dots x y z u).length ≤ 1000 := by
  have hx := hin x (by simp)
  have hy := hin y (by simp)
  have hz := hin z (by simp)
  have hu := hin u (by simp)
  have lx := num_len (n := x) (by omega) (by omega)
  have ly := num_len (n := y) (by omega) (by omega)
  have lz := num_len (n := z) (by omega) (by omega)
  have lu := num_len (n := u) (by omega) (by omega)
  have hdot : dotS.length = 1 := by decide +kernel
  have e : (dots x y z u).length = ([num x, num y, num z, num u].map (·.length)).sum + 3 * dotS.length := by
    show (PySem.Txt.join dotS [num x, num y, num z, num u]).length = _
    rw [join_is]
    exact len_join_cons dotS (num x) [num y, num z, num u]
  rw [e, hdot]
  simp only [List.map_cons, List.map_nil, List.sum_cons, List.sum_nil]
  omega
theorem dots_split {x y z u : Int} (hin : KBa.In [x, y, z, u]) : PySem.Txt.split (dots x y z u) dotS = [num x, num y, num z, num u] :=
  split4 (num_free (hin x (by simp)).1) (num_free (hin y (by simp)).1) (num_free (hin z (by simp)).1) (num_free (hin u (by simp)).1)
theorem num_reads {n : Int} (h : 0 ≤ n ∧ n < 256) : PySem.intText? (num n) = some n := KIN.num_reads h.1 (by omega)
end Mine
end
section
open PySem PySem.W PyProof.Rows PySem.Calls
set_option Elab.async false
set_option maxRecDepth 100000
set_option maxHeartbeats 4000000
set_option pp.deepTerms false
set_option pp.maxSteps 3000
namespace Mine
theorem off_N1 : True := by
  w_top off
  exact True.intro
local macro_rules | `(tactic| walk_at "eval Name") => `(tactic| (k_here; (fail_if_success (with_reducible show wpAny _ _ (eval (Expr.Name _ _) (compEnvC _ _ _ _)) _ _ _)); name_kind "globalImplicit"; k_dflt (first | (refine' nameX_K ?F ?X ?T ?e ?_ ?a ?b; (case F => k_asm); (case X => k_asm); (case T => k_asm); (case a => rfl); (case b => kernel_rfl); (case e => k_is); k_whole) | (refine' nameX_B ?F ?X ?T ?e ?v ?n ?_ ?a ?b; (case F => k_asm); (case X => k_asm); (case T => k_asm); (case a => rfl); (case b => kernel_rfl); (case e => k_is); (case v => boot_fast); (case n => decide); k_whole))))
local macro_rules | `(tactic| walk_at "eval Name") => `(tactic| (k_here; (fail_if_success (with_reducible show wpAny _ _ (eval (Expr.Name _ _) (compEnvC _ _ _ _)) _ _ _)); name_kind "local"; k_dflt (refine' nameX_L ?F ?v ?_ ?a ?b; (case F => k_asm); (case a => rfl); (case b => kernel_rfl); (case v => rfl); k_whole)))
local macro_rules | `(tactic| walk_at "eval Name") => `(tactic| (k_here; (with_reducible show wpAny _ _ (eval (Expr.Name (PySem.Str.ofString "bytearray") _) _) _ _ _); k_dflt (refine' nameX_B ?F ?X ?T ?e ?v ?n ?_ ?a ?b; (case F => k_asm); (case X => k_asm); (case T => k_asm); (case a => rfl); (case b => kernel_rfl); (case e => k_is); (case v => boot_by_name); (case n => decide); k_whole)))
local macro_rules | `(tactic| walk_at "eval Name") => `(tactic| (k_here; (with_reducible show wpAny _ _ (eval (Expr.Name _ _) (compEnvC _ _ _ _)) _ _ _); k_dflt (first | refine LCgL.ld_own (by k_asm) (by k_mem) (by assumption) (by assumption) ?_ | refine LCgL.ld_built (by k_asm) (by k_asm) (by k_asm) (by k_is) (by boot_by_name) (by decide) ?_)))
local macro_rules | `(tactic| walk_at "eval ListComp") => `(tactic| (k_here; lcg_look; k_dflt (refine comp_bytes (by k_asm) (by rfl) (by decide) (by rfl) (by decide) (by rfl) ?_); walk1; k_dflt (refine ⟨_, _, _, _, rfl, (by assumption : KBw.bInts _ = _), rfl, by k_asm, by k_asm, Nat.le_of_ble_eq_true rfl, ?_⟩); (intro g'); lcg_lit))
local macro_rules | `(tactic| walk_at "CompEnd") => `(tactic| (refine LCg.CompEnd.intro (by assumption) (by assumption) _ (fun _ hp => hp) (by assumption) (by first | exact True.intro | assumption | exact Or.inl (by assumption) | exact Or.inr ⟨_, by k_mem, rfl, _, rfl⟩) ?_))
local macro_rules | `(tactic| walk_at "CompRest") => `(tactic| (with_unfolding_all (refine LCg.CompRest.succ ?_; intro v' I' oI' C' oC' D' m' h' tk' E' hv' hC' hx' F' N' off' ne'; (obtain ⟨t9', hv9'⟩ := hv'; (simp at hv9'); subst hv9'); (try simp only [LCg.Off3, and_true] at off'))))
local macro_rules | `(tactic| walk_at "call builtin:str.join") => `(tactic| (k_here; (refine join4 (News.isList (by k_asm) (by k_mem)) (by decide +kernel) (Nat.le_trans (num_len (by omega) (by omega)) (by decide)) (Nat.le_trans (num_len (by omega) (by omega)) (by decide)) (Nat.le_trans (num_len (by omega) (by omega)) (by decide)) (Nat.le_trans (num_len (by omega) (by omega)) (by decide)) ?_); intro _ _))
theorem ntoa_bytes {w : World} {mean : ExcName → Option Value} {mg mb : PySem.Str → Option Value} (news : List (Addr × Obj)) (b : Array UInt8) (t : Tok) (x y z u : Int) (hk : KBw.bInts b = [x, y, z, u]) :
    Claim w mean mg mb 62 news [.bytes b t] 2 (Gives1 news fun t => .str (dots x y z u) t) := by
  intro dp un gd cn cs a ccd cl outer A₀ base h₀ L m s Q E B F X N T hkind hdp hun hret
  refine wpAny_call ?_
  k_dflt ktr_enter
  have hb : ∀ k ∈ [x, y, z, u], 0 ≤ k ∧ k < 256 := fun k hk' => KBw.ints_in (b := b) (by rw [hk]; exact hk')
  have hx := hb x (by simp)
  have hy := hb y (by simp)
  have hz := hb z (by simp)
  have hu := hb u (by simp)
  k_steps
  all_goals exact hret _ _ _ (by assumption) (fun p hp => (by assumption : News _ _ _ (_ :: _)) p (.tail _ hp))
end Mine
end
section
open PySem PySem.W PyProof.Rows PySem.Calls
set_option Elab.async false
set_option maxRecDepth 100000
set_option maxHeartbeats 4000000
set_option pp.deepTerms false
set_option pp.maxSteps 3000
namespace Mine
theorem off_N2 : True := by
  w_top off
  exact True.intro
local macro_rules | `(tactic| walk_at "eval Name") => `(tactic| (k_here; (fail_if_success (with_reducible show wpAny _ _ (eval (Expr.Name _ _) (compEnvC _ _ _ _)) _ _ _)); name_kind "globalImplicit"; k_dflt (first | (refine' nameX_K ?F ?X ?T ?e ?_ ?a ?b; (case F => k_asm); (case X => k_asm); (case T => k_asm); (case a => rfl); (case b => kernel_rfl); (case e => k_is); k_whole) | (refine' nameX_B ?F ?X ?T ?e ?v ?n ?_ ?a ?b; (case F => k_asm); (case X => k_asm); (case T => k_asm); (case a => rfl); (case b => kernel_rfl); (case e => k_is); (case v => boot_fast); (case n => decide); k_whole))))
local macro_rules | `(tactic| walk_at "eval Name") => `(tactic| (k_here; (fail_if_success (with_reducible show wpAny _ _ (eval (Expr.Name _ _) (compEnvC _ _ _ _)) _ _ _)); name_kind "local"; k_dflt (refine' nameX_L ?F ?v ?_ ?a ?b; (case F => k_asm); (case a => rfl); (case b => kernel_rfl); (case v => rfl); k_whole)))
local macro_rules | `(tactic| walk_at "eval Name") => `(tactic| (k_here; (with_reducible show wpAny _ _ (eval (Expr.Name (PySem.Str.ofString "bytearray") _) _) _ _ _); k_dflt (refine' nameX_B ?F ?X ?T ?e ?v ?n ?_ ?a ?b; (case F => k_asm); (case X => k_asm); (case T => k_asm); (case a => rfl); (case b => kernel_rfl); (case e => k_is); (case v => boot_by_name); (case n => decide); k_whole)))
local macro_rules | `(tactic| walk_at "eval Name") => `(tactic| (k_here; (with_reducible show wpAny _ _ (eval (Expr.Name _ _) (compEnvC _ _ _ _)) _ _ _); k_dflt (first | refine LCgL.ld_own (by k_asm) (by k_mem) (by assumption) (by assumption) ?_ | refine LCgL.ld_built (by k_asm) (by k_asm) (by k_asm) (by k_is) (by boot_by_name) (by decide) ?_)))
local macro_rules | `(tactic| walk_at "CompEnd") => `(tactic| (refine LCg.CompEnd.intro (by assumption) (by assumption) _ (fun _ hp => hp) (by assumption) (by first | exact True.intro | assumption | exact Or.inl (by assumption) | exact Or.inr ⟨_, by k_mem, rfl, _, rfl⟩) ?_))
local macro_rules | `(tactic| walk_at "call builtin:str.split") => `(tactic| (k_here; (refine KSpl.split1 (by k_asm) (by k_asm) (by decide) ?_ (Nat.le_trans (by assumption) (by decide))); intro D' l' h' k' e' a' F' N' l1; rw [(by assumption : Txt.split _ _ = _)] at e'; kspl_open e'; (simp only [strValues, List.map_cons, List.map_nil] at N' a')))
local macro_rules | `(tactic| walk_at "call type:int") => `(tactic| (k_here; refine KIN.call_text (by with_reducible assumption) (by assumption) ?_))
theorem aton_ok {w : World} {mean : ExcName → Option Value} {mg mb : PySem.Str → Option Value} (news : List (Addr × Obj)) (txt : PySem.Str) (t : Tok) (x y z u : PySem.Str) (a b c d : Int)
   (hx : PySem.Txt.split txt (PySem.Str.ofString ".") = [x, y, z, u]) (hlen : txt.length + 2 ≤ 10000) (ha : PySem.intText? x = some a) (hb : PySem.intText? y = some b) (hc : PySem.intText? z = some c) (hd' : PySem.intText? u = some d)
   (la : x.length ≤ 640) (lb : y.length ≤ 640) (lc : z.length ≤ 640) (ld : u.length ≤ 640) (hin : KBa.In [a, b, c, d]) :
    Claim w mean mg mb 57 news [.str txt t] 2 (Gives1 news fun t => .bytes (byteArr [a, b, c, d]) t) := by
  intro dp un gd cn cs a ccd cl outer A₀ base h₀ L m s Q E B F X N T hkind hdp hun hret
  refine wpAny_call ?_
  k_dflt ktr_enter
  k_steps
  all_goals (first | exact hret _ _ _ (by assumption) (by assumption) | exact hret _ _ _ (by assumption) (fun p hp => (by assumption : News _ _ _ (_ :: _)) p (.tail _ hp)) | exact hret _ _ _ (by assumption) (fun p hp => (by assumption : News _ _ _ (_ :: _ :: _)) p (.tail _ (.tail _ hp))) | exact hret _ _ _ (by assumption) (fun p hp => (by assumption : News _ _ _ (_ :: _ :: _ :: _)) p (.tail _ (.tail _ (.tail _ hp)))) | exact hret _ _ _ (by assumption) (fun p hp => (by assumption : News _ _ _ (_ :: _ :: _ :: _ :: _)) p (.tail _ (.tail _ (.tail _ (.tail _ hp))))))
end Mine
end
section
open PySem PySem.W PyProof.Rows PySem.Calls
set_option Elab.async false
set_option maxRecDepth 100000
set_option maxHeartbeats 4000000
set_option pp.deepTerms false
set_option pp.maxSteps 3000
namespace Mine
theorem off_N3 : True := by
  w_top off
  exact True.intro
local macro_rules | `(tactic| walk_at "eval Name") => `(tactic| (k_here; (fail_if_success (with_reducible show wpAny _ _ (eval (Expr.Name _ _) (compEnvC _ _ _ _)) _ _ _)); name_kind "globalImplicit"; k_dflt (first | (refine' nameX_K ?F ?X ?T ?e ?_ ?a ?b; (case F => k_asm); (case X => k_asm); (case T => k_asm); (case a => rfl); (case b => kernel_rfl); (case e => k_is); k_whole) | (refine' nameX_B ?F ?X ?T ?e ?v ?n ?_ ?a ?b; (case F => k_asm); (case X => k_asm); (case T => k_asm); (case a => rfl); (case b => kernel_rfl); (case e => k_is); (case v => boot_fast); (case n => decide); k_whole))))
local macro_rules | `(tactic| walk_at "eval Name") => `(tactic| (k_here; (fail_if_success (with_reducible show wpAny _ _ (eval (Expr.Name _ _) (compEnvC _ _ _ _)) _ _ _)); name_kind "local"; k_dflt (refine' nameX_L ?F ?v ?_ ?a ?b; (case F => k_asm); (case a => rfl); (case b => kernel_rfl); (case v => rfl); k_whole)))
local macro_rules | `(tactic| walk_at "eval Name") => `(tactic| (k_here; (with_reducible show wpAny _ _ (eval (Expr.Name (PySem.Str.ofString "bytearray") _) _) _ _ _); k_dflt (refine' nameX_B ?F ?X ?T ?e ?v ?n ?_ ?a ?b; (case F => k_asm); (case X => k_asm); (case T => k_asm); (case a => rfl); (case b => kernel_rfl); (case e => k_is); (case v => boot_by_name); (case n => decide); k_whole)))
local macro_rules | `(tactic| walk_at "eval Name") => `(tactic| (k_here; (with_reducible show wpAny _ _ (eval (Expr.Name _ _) (compEnvC _ _ _ _)) _ _ _); k_dflt (first | refine LCgL.ld_own (by k_asm) (by k_mem) (by assumption) (by assumption) ?_ | refine LCgL.ld_built (by k_asm) (by k_asm) (by k_asm) (by k_is) (by boot_by_name) (by decide) ?_)))
local macro_rules | `(tactic| walk_at "eval ListComp") => `(tactic| (k_here; lcg_look; k_dflt (refine comp_ba (by k_asm) (by rfl) (by decide) (by rfl) (by decide) (by rfl) ?_); walk1; k_dflt (refine ⟨_, _, _, _, rfl, (by assumption), (by assumption : KBw.bInts _ = _), rfl, by k_asm, by k_asm, Nat.le_of_ble_eq_true rfl, ?_⟩); (intro g'); lcg_lit))
local macro_rules | `(tactic| walk_at "CompEnd") => `(tactic| (refine LCg.CompEnd.intro (by assumption) (by assumption) _ (fun _ hp => hp) (by assumption) (by first | exact True.intro | assumption | exact List.mem_cons_of_mem _ (by assumption) | exact List.mem_cons_of_mem _ (List.mem_cons_of_mem _ (by assumption)) | exact Or.inl (by assumption) | exact Or.inr ⟨_, by k_mem, rfl, _, rfl⟩) ?_))
local macro_rules | `(tactic| walk_at "CompRest") => `(tactic| (with_unfolding_all (refine LCg.CompRest.succ ?_; intro v' I' oI' C' oC' D' m' h' tk' E' hv' hC' hx' F' N' off' ne'; (obtain ⟨t9', hv9'⟩ := hv'; (simp at hv9'); subst hv9'); (try simp only [LCg.Off3, and_true] at off'))))
local macro_rules | `(tactic| walk_at "call builtin:str.join") => `(tactic| (k_here; (refine join4 (News.isList (by k_asm) (by k_mem)) (by decide +kernel) (Nat.le_trans (num_len (by omega) (by omega)) (by decide)) (Nat.le_trans (num_len (by omega) (by omega)) (by decide)) (Nat.le_trans (num_len (by omega) (by omega)) (by decide)) (Nat.le_trans (num_len (by omega) (by omega)) (by decide)) ?_); intro _ _))
theorem ntoa_ba {w : World} {mean : ExcName → Option Value} {mg mb : PySem.Str → Option Value} (news : List (Addr × Obj)) (D : Addr) (b : Array UInt8) (x y z u : Int) (hk : KBw.bInts b = [x, y, z, u]) (hD : (D, baO b) ∈ news) :
    Claim w mean mg mb 62 news [.ref D] 2 (Gives1 news fun t => .str (dots x y z u) t) := by
  intro dp un gd cn cs a ccd cl outer A₀ base h₀ L m s Q E B F X N T hkind hdp hun hret
  refine wpAny_call ?_
  k_dflt ktr_enter
  have hb : ∀ k ∈ [x, y, z, u], 0 ≤ k ∧ k < 256 := fun k hk' => KBw.ints_in (b := b) (by rw [hk]; exact hk')
  have hx := hb x (by simp)
  have hy := hb y (by simp)
  have hz := hb z (by simp)
  have hu := hb u (by simp)
  k_steps
  all_goals (first | exact hret _ _ _ (by assumption) (by assumption) | exact hret _ _ _ (by assumption) (fun p hp => (by assumption : News _ _ _ (_ :: _)) p (.tail _ hp)) | exact hret _ _ _ (by assumption) (fun p hp => (by assumption : News _ _ _ (_ :: _ :: _)) p (.tail _ (.tail _ hp))) | exact hret _ _ _ (by assumption) (fun p hp => (by assumption : News _ _ _ (_ :: _ :: _ :: _)) p (.tail _ (.tail _ (.tail _ hp)))) | exact hret _ _ _ (by assumption) (fun p hp => (by assumption : News _ _ _ (_ :: _ :: _ :: _ :: _)) p (.tail _ (.tail _ (.tail _ (.tail _ hp))))))
end Mine
end
section
open PySem PySem.W PyProof.Rows PySem.Calls
set_option Elab.async false
set_option maxRecDepth 100000
set_option maxHeartbeats 4000000
set_option pp.deepTerms false
set_option pp.maxSteps 3000
namespace Mine
theorem off_N4 : True := by
  w_top off
  exact True.intro
local macro_rules | `(tactic| walk_at "eval Name") => `(tactic| (k_here; name_kind "globalImplicit"; k_dflt (first | (refine' nameX_K ?F ?X ?T ?e ?_ ?a ?b; (case F => k_asm); (case X => k_asm); (case T => k_asm); (case a => rfl); (case b => kernel_rfl); (case e => k_is); k_whole) | (refine' nameX_B ?F ?X ?T ?e ?v ?n ?_ ?a ?b; (case F => k_asm); (case X => k_asm); (case T => k_asm); (case a => rfl); (case b => kernel_rfl); (case e => k_is); (case v => boot_fast); (case n => decide); k_whole))))
local macro_rules | `(tactic| walk_at "eval Name") => `(tactic| (k_here; name_kind "local"; k_dflt (refine' nameX_L ?F ?v ?_ ?a ?b; (case F => k_asm); (case a => rfl); (case b => kernel_rfl); (case v => rfl); k_whole)))
local macro_rules | `(tactic| walk_at "eval Name") => `(tactic| (k_here; (with_reducible show wpAny _ _ (eval (Expr.Name (PySem.Str.ofString "bytearray") _) _) _ _ _); k_dflt (refine' nameX_B ?F ?X ?T ?e ?v ?n ?_ ?a ?b; (case F => k_asm); (case X => k_asm); (case T => k_asm); (case a => rfl); (case b => kernel_rfl); (case e => k_is); (case v => boot_by_name); (case n => decide); k_whole)))
local macro_rules | `(tactic| walk_at "call ref") => `(tactic| (k_here; refine aton_ok _ _ _ _ _ _ _ _ _ _ _ (by assumption) (by assumption) (by assumption) (by assumption) (by assumption) (by assumption) (by assumption) (by assumption) (by assumption) (by assumption) (by assumption) _ _ _ _ _ _ _ _ _ _ _ _ _ _ _ _ _ (by k_asm) (by k_asm) (by k_asm) (by k_asm) (by k_asm) (by rfl) (by ktr_room) (by ktr_units) ?_; intro _ _ _ F' N'))
local macro_rules | `(tactic| walk_at "call builtin:_struct.pack") => `(tactic| (k_here; (rw [PyProof.Rows.bitAnd_m16]); refine pack_H (by omega) (by omega) ?_; intro _ _))
theorem pack_ok {w : World} {mean : ExcName → Option Value} {mg mb : PySem.Str → Option Value} (news : List (Addr × Obj)) (txt : PySem.Str) (t t2 : Tok) (D : Addr) (n : Int) (x y z u : PySem.Str) (a b c d : Int)
   (hD : (D, tupO [.str txt t, .int n t2]) ∈ news) (hx : PySem.Txt.split txt (PySem.Str.ofString ".") = [x, y, z, u]) (hlen : txt.length + 2 ≤ 10000) (ha : PySem.intText? x = some a) (hb : PySem.intText? y = some b) (hc : PySem.intText? z = some c) (hd' : PySem.intText? u = some d)
   (la : x.length ≤ 640) (lb : y.length ≤ 640) (lc : z.length ≤ 640) (ld : u.length ≤ 640) (hin : KBa.In [a, b, c, d]) :
    Claim w mean mg mb 171 news [.ref D] 4 (Gives1 news fun t => .bytes (byteArr [a, b, c, d, n % 65536 / 256, n % 65536 % 256]) t) := by
  intro dp un gd cn cs a ccd cl outer A₀ base h₀ L m s Q E B F X N T hkind hdp hun hret
  refine wpAny_call ?_
  k_dflt ktr_enter
  k_steps
  all_goals (first | exact hret _ _ _ (by assumption) (by assumption) | exact hret _ _ _ (by assumption) (fun p hp => (by assumption : News _ _ _ (_ :: _)) p (.tail _ hp)) | exact hret _ _ _ (by assumption) (fun p hp => (by assumption : News _ _ _ (_ :: _ :: _)) p (.tail _ (.tail _ hp))) | exact hret _ _ _ (by assumption) (fun p hp => (by assumption : News _ _ _ (_ :: _ :: _ :: _)) p (.tail _ (.tail _ (.tail _ hp)))) | exact hret _ _ _ (by assumption) (fun p hp => (by assumption : News _ _ _ (_ :: _ :: _ :: _ :: _)) p (.tail _ (.tail _ (.tail _ (.tail _ hp))))))
end Mine
end
section
open PySem PySem.W PyProof.Rows PySem.Calls
set_option Elab.async false
set_option maxRecDepth 100000
set_option maxHeartbeats 4000000
set_option pp.deepTerms false
set_option pp.maxSteps 3000
namespace Mine
theorem off_N5 : True := by
  w_top off
  exact True.intro
local macro_rules | `(tactic| walk_at "no such step") => `(tactic| fail)
local macro_rules | `(tactic| walk_at "eval Name") => `(tactic| (k_here; name_kind "globalImplicit"; k_dflt (first | (refine' nameX_K ?F ?X ?T ?e ?_ ?a ?b; (case F => k_asm); (case X => k_asm); (case T => k_asm); (case a => rfl); (case b => kernel_rfl); (case e => k_is); k_whole) | (refine' nameX_B ?F ?X ?T ?e ?v ?n ?_ ?a ?b; (case F => k_asm); (case X => k_asm); (case T => k_asm); (case a => rfl); (case b => kernel_rfl); (case e => k_is); (case v => boot_fast); (case n => decide); k_whole))))
local macro_rules | `(tactic| walk_at "eval Name") => `(tactic| (k_here; name_kind "local"; k_dflt (refine' nameX_L ?F ?v ?_ ?a ?b; (case F => k_asm); (case a => rfl); (case b => kernel_rfl); (case v => rfl); k_whole)))
local macro_rules | `(tactic| walk_at "eval Name") => `(tactic| (k_here; (with_reducible show wpAny _ _ (eval (Expr.Name (PySem.Str.ofString "bytearray") _) _) _ _ _); k_dflt (refine' nameX_B ?F ?X ?T ?e ?v ?n ?_ ?a ?b; (case F => k_asm); (case X => k_asm); (case T => k_asm); (case a => rfl); (case b => kernel_rfl); (case e => k_is); (case v => boot_by_name); (case n => decide); k_whole)))
local macro_rules | `(tactic| walk_at "call ref") => `(tactic| (k_here; refine ntoa_bytes _ _ _ _ _ _ _ (by assumption) _ _ _ _ _ _ _ _ _ _ _ _ _ _ _ _ _ (by k_asm) (by k_asm) (by k_asm) (by k_asm) (by k_asm) (by rfl) (by ktr_room) (by ktr_units) ?_; intro _ _ _ F' N'))
local macro_rules | `(tactic| walk_at "call builtin:_struct.unpack") => `(tactic| (k_here; refine unpack_H (by simp) (by k_asm) (by k_asm) (by assumption) ?_; intro D' t' h' k' F' N' l1))
theorem unpack_N5 {w : World} {mean : ExcName → Option Value} {mg mb : PySem.Str → Option Value} (news : List (Addr × Obj)) (b : Array UInt8) (t : Tok) (x y z u p q : Int) (hk : KBw.bInts b = [x, y, z, u, p, q]) :
    Claim w mean mg mb 178 news [.bytes b t] 4 (fun h₀ L m s Q => ∀ (D : Addr) (t1 t2 : Tok) (h' : Heap) (tk' : Nat), Fr h₀ L h' m → News h₀ L h' ((D, tupO [.str (dots x y z u) t1, .int (p * 256 + q) t2]) :: news) → (∀ p ∈ news, p.1 < D) → Q (.ref D) { s with heap := h', toks := tk' }) := by
  intro dp un gd cn cs a ccd cl outer A₀ base h₀ L m s Q E B F X N T hkind hdp hun hret
  refine wpAny_call ?_
  k_dflt ktr_enter
  k_steps
  refine hret _ _ _ _ _ (by assumption) (skip1 (by assumption)) (lt_all (by assumption : _ ∧ AllLt _ _).2)
end Mine
end
section
open PySem PySem.W PyProof.Rows PySem.Calls
set_option Elab.async false
set_option maxRecDepth 100000
set_option maxHeartbeats 4000000
set_option pp.deepTerms false
set_option pp.maxSteps 3000
namespace Mine
theorem off_N6 : True := by
  w_top off
  exact True.intro
local macro_rules | `(tactic| walk_at "eval Name") => `(tactic| (k_here; name_kind "globalImplicit"; k_dflt (first | (refine' nameX_K ?F ?X ?T ?e ?_ ?a ?b; (case F => k_asm); (case X => k_asm); (case T => k_asm); (case a => rfl); (case b => kernel_rfl); (case e => k_is); k_whole) | (refine' nameX_B ?F ?X ?T ?e ?v ?n ?_ ?a ?b; (case F => k_asm); (case X => k_asm); (case T => k_asm); (case a => rfl); (case b => kernel_rfl); (case e => k_is); (case v => boot_fast); (case n => decide); k_whole))))
local macro_rules | `(tactic| walk_at "eval Name") => `(tactic| (k_here; name_kind "local"; k_dflt (refine' nameX_L ?F ?v ?_ ?a ?b; (case F => k_asm); (case a => rfl); (case b => kernel_rfl); (case v => rfl); k_whole)))
local macro_rules | `(tactic| walk_at "eval Name") => `(tactic| (k_here; (with_reducible show wpAny _ _ (eval (Expr.Name (PySem.Str.ofString "bytearray") _) _) _ _ _); k_dflt (refine' nameX_B ?F ?X ?T ?e ?v ?n ?_ ?a ?b; (case F => k_asm); (case X => k_asm); (case T => k_asm); (case a => rfl); (case b => kernel_rfl); (case e => k_is); (case v => boot_by_name); (case n => decide); k_whole)))
local macro_rules | `(tactic| walk_at "call ref") => `(tactic| (k_here; refine ntoa_bytes _ _ _ _ _ _ _ (by assumption) _ _ _ _ _ _ _ _ _ _ _ _ _ _ _ _ _ (by k_asm) (by k_asm) (by k_asm) (by k_asm) (by k_asm) (by rfl) (by ktr_room) (by ktr_units) ?_; intro _ _ _ F' N'))
local macro_rules | `(tactic| walk_at "call builtin:_struct.unpack") => `(tactic| (k_here; refine unpack_H (by simp) (by k_asm) (by k_asm) (by assumption) ?_; intro D' t' h' k' F' N' l1))
theorem unpack_N6 {w : World} {mean : ExcName → Option Value} {mg mb : PySem.Str → Option Value} (news : List (Addr × Obj)) (b : Array UInt8) (t : Tok) (x y z u p q r : Int) (hk : KBw.bInts b = [x, y, z, u, p, q, r]) :
    Claim w mean mg mb 178 news [.bytes b t] 4 (fun h₀ L m s Q => ∀ (D : Addr) (t1 t2 : Tok) (h' : Heap) (tk' : Nat), Fr h₀ L h' m → News h₀ L h' ((D, tupO [.str (dots x y z u) t1, .int (p * 256 + q) t2]) :: news) → (∀ p ∈ news, p.1 < D) → Q (.ref D) { s with heap := h', toks := tk' }) := by
  intro dp un gd cn cs a ccd cl outer A₀ base h₀ L m s Q E B F X N T hkind hdp hun hret
  refine wpAny_call ?_
  k_dflt ktr_enter
  k_steps
  refine hret _ _ _ _ _ (by assumption) (skip1 (by assumption)) (lt_all (by assumption : _ ∧ AllLt _ _).2)
end Mine
end
section
open PySem PySem.W PyProof.Rows PySem.Calls
open Sem (wp)
set_option Elab.async false
set_option maxRecDepth 100000
namespace Mine
namespace BF
theorem no_bytes : typeLookup (.type "bytearray") "__bytes__" = pure none := by rw [typeLookup_type, builtinLookup_eq_fast]; kernel_rfl
theorem noIndexB : typeLookup (.type "bytearray") "__index__" = pure none := by rw [typeLookup_type, builtinLookup_eq_fast]; kernel_rfl
theorem buf : typeLookup (.type "bytearray") "__buffer__" = pure (some (.builtin "bytearray.__buffer__")) := by rw [typeLookup_type, builtinLookup_eq_fast]; kernel_rfl
theorem isi_meta : typeOf (.type "bytearray") = pure (.type "type") := by kernel_rfl
end BF
section
variable {prog : Program} {w : World} {A : Around} {E : Value → Shared → Prop} {s : Shared} {h₀ : Heap} {L : Addr} {m : PySem.Str → Option Value} {news : List (Addr × Obj)}
theorem own_buf_ba {D : Addr} {b : Array UInt8} {Q : Bool → Shared → Prop} (hD : s.heap.get? D = some (baO b)) (h : Q true s) : wpAny (model prog w) A (Builtin.Bytes.slotIsOwn (.ref D) "__buffer__") Q E s := by
  have hT : s.TypeIs (.ref D) "bytearray" := ⟨_, hD, rfl⟩
  unfold Builtin.Bytes.slotIsOwn
  refine wpAny_bind (wpAny_specialOf hT BF.buf ?_)
  dsimp only
  have key : ∀ x : String, x = "bytearray" → wpAny (model prog w) A (isInstance (.ref D) (.type x)) Q E s := fun x hx => by
    subst hx
    exact wpAny_isInstance hT BF.sub h
  refine wpAny_ite ?_
  rw [if_neg (by decide +kernel)]
  exact key _ (by decide +kernel)
theorem buffer_ba {D : Addr} {b : Array UInt8} {Q : Option (Array UInt8) → Shared → Prop} (hD : s.heap.get? D = some (baO b)) (h : Q (some b) s) : wpAny (model prog w) A (Builtin.Bytes.buffer? "bytes.__new__" (.ref D) true) Q E s := by
  have hT : s.TypeIs (.ref D) "bytearray" := ⟨_, hD, rfl⟩
  unfold Builtin.Bytes.buffer?
  refine wpAny_bind (wpAny_specialOf hT BF.buf ?_)
  dsimp only
  refine wpAny_bind (own_buf_ba hD ?_)
  refine bm_if_false rfl ?_
  refine wpAny_bind (wpAny_specialOf hT BF.buf ?_)
  refine wpAny_bind (own_release_ba hD ?_)
  refine bm_if_false rfl ?_
  refine wpAny_bind ?_
  unfold Builtin.Bytes.payload Builtin.Bytes.payload?
  refine wpAny_bind (wpAny_bind (wpAny_load hD (wpAny_pure ?_)))
  exact wpAny_pure (wpAny_pure h)
theorem new_of_ba {D : Addr} {b : Array UInt8} {Q : Value → Shared → Prop} (hD : s.heap.get? D = some (baO b)) (hz : b.size ≤ sizeLine)
    (hQ : ∀ t k, Q (.bytes b t) { s with toks := k }) :
    codeAny (model prog w) A (.call (.builtin "bytes.__new__") ⟨[.type "bytes", .ref D], []⟩) (wants Q E) s := by
  refine codeAny_of_tree ?_
  show wpAny _ A.in1 (do checkBuiltinCall "bytes.__new__" ⟨[.type "bytes", .ref D], []⟩; again (.builtin "bytes.__new__" ⟨[.type "bytes", .ref D], []⟩)) _ _ s
  refine wpAny_bind (wpAny_of_eq (F.bm_newCall _) (wpAny_pure ⟨plainId_quiet F.bm_plain _, codeAny_builtin F.bm_entry ?_⟩))
  rw [Around.under_plainId F.bm_plain _]
  have hT : s.TypeIs (.ref D) "bytearray" := ⟨_, hD, rfl⟩
  unfold Builtin.«bytes.__new__»
  refine wpAny_bind (wpAny_of_eq (a := true) rfl ?_)
  refine bm_if_false rfl ?_
  refine wpAny_bind (wpAny_of_eq F.bm_sub ?_)
  refine bm_if_false rfl ?_
  refine wpAny_bind (wpAny_of_eq (F.bm_bind _) ?_)
  refine wpAny_bind (wpAny_of_eq (a := ()) rfl ?_)
  refine wpAny_bind (wpAny_of_eq (a := ()) rfl ?_)
  refine bm_if_false rfl ?_
  refine wpAny_bind (wpAny_specialOf hT BF.no_bytes ?_)
  refine wpAny_bind (wpAny_bind ?_)
  show wpAny _ _ (load D >>= _) _ _ _
  refine wpAny_bind (wpAny_load hD ?_)
  refine wpAny_pure (wpAny_pure ?_)
  refine bm_if_false rfl ?_
  refine wpAny_bind (wpAny_specialOf hT BF.noIndexB ?_)
  refine bm_if_true rfl ?_
  first
    | show wpAny _ _ (Builtin.Bytes.buffer? "bytes.__new__" (.ref D) true >>= _) _ _ _
    | (refine wpAny_bind ?_; show wpAny _ _ (Builtin.Bytes.buffer? "bytes.__new__" (.ref D) true >>= _) _ _ _)
  refine wpAny_bind (buffer_ba hD ?_)
  dsimp only
  refine wpAny_bind (wpAny_rule ?_)
  refine wpAny_bind (wpAny_mkBytes ?_ hz)
  show wpAny _ _ (if (Value.type "bytes" == Value.type "bytes") = true then _ else _) _ _ _
  refine bm_if_true (by decide) ?_
  first
    | exact wpAny_pure (hQ _ _)
    | exact wpAny_bind (wpAny_pure (wpAny_pure (hQ _ _)))
theorem call_bytes_ba {D : Addr} {b : Array UInt8} {Q : Value → Shared → Prop} (hD : s.heap.get? D = some (baO b)) (hz : b.size ≤ sizeLine)
    (hQ : ∀ t k, Q (.bytes b t) { s with toks := k }) : wpAny (model prog w) A (call (.type "bytes") [.ref D]) Q E s := by
  refine callType_codes (Q₁ := fun obj s₁ => s₁.TypeIs obj "bytes" ∧ Q obj s₁) F.bm_called (F.bm_typeCall _) F.entry_object_init
    (new_of_ba hD hz fun t k => ⟨PySem.W.typeIs_bytes _ _ _, hQ t k⟩) fun obj s₁ h₁ => ?_
  exact ⟨h₁.1, F.args_object_init_2 obj _, object_init_meets F.bm_called.init.lookup F.bm_called.made (by decide) prog w A.in1 _ s₁ ⟨h₁.1, rfl, h₁.2⟩⟩
theorem isi_ba {D : Addr} {b : Array UInt8} {Q : Value → Shared → Prop} (hD : s.heap.get? D = some (baO b)) (h : Q (.bool true) s) : wpAny (model prog w) A (call (.builtin "isinstance") [.ref D, .type "bytearray"]) Q E s :=
  call_isinstance_yes (⟨_, hD, rfl⟩ : s.TypeIs (.ref D) "bytearray") BF.isi_meta BF.sub h
end
end Mine
end
section
open PySem PySem.W PyProof.Rows PySem.Calls
set_option Elab.async false
set_option maxRecDepth 100000
set_option maxHeartbeats 4000000
set_option pp.deepTerms false
set_option pp.maxSteps 3000
namespace Mine
theorem off_N8 : True := by
  w_top off
  exact True.intro
local macro_rules | `(tactic| walk_at "eval Name") => `(tactic| (k_here; (fail_if_success (with_reducible show wpAny _ _ (eval (Expr.Name _ _) (compEnvC _ _ _ _)) _ _ _)); name_kind "globalImplicit"; k_dflt (first | (refine' nameX_K ?F ?X ?T ?e ?_ ?a ?b; (case F => k_asm); (case X => k_asm); (case T => k_asm); (case a => rfl); (case b => kernel_rfl); (case e => k_is); k_whole) | (refine' nameX_B ?F ?X ?T ?e ?v ?n ?_ ?a ?b; (case F => k_asm); (case X => k_asm); (case T => k_asm); (case a => rfl); (case b => kernel_rfl); (case e => k_is); (case v => boot_fast); (case n => decide); k_whole))))
local macro_rules | `(tactic| walk_at "eval Name") => `(tactic| (k_here; (fail_if_success (with_reducible show wpAny _ _ (eval (Expr.Name _ _) (compEnvC _ _ _ _)) _ _ _)); name_kind "local"; k_dflt (refine' nameX_L ?F ?v ?_ ?a ?b; (case F => k_asm); (case a => rfl); (case b => kernel_rfl); (case v => rfl); k_whole)))
local macro_rules | `(tactic| walk_at "eval Name") => `(tactic| (k_here; (with_reducible show wpAny _ _ (eval (Expr.Name (PySem.Str.ofString "bytearray") _) _) _ _ _); k_dflt (refine' nameX_B ?F ?X ?T ?e ?v ?n ?_ ?a ?b; (case F => k_asm); (case X => k_asm); (case T => k_asm); (case a => rfl); (case b => kernel_rfl); (case e => k_is); (case v => boot_by_name); (case n => decide); k_whole)))
local macro_rules | `(tactic| walk_at "eval Name") => `(tactic| (k_here; (with_reducible show wpAny _ _ (eval (Expr.Name _ _) (compEnvC _ _ _ _)) _ _ _); k_dflt (first | refine LCgL.ld_own (by k_asm) (by k_mem) (by assumption) (by assumption) ?_ | refine LCgL.ld_built (by k_asm) (by k_asm) (by k_asm) (by k_is) (by boot_by_name) (by decide) ?_)))
local macro_rules | `(tactic| walk_at "call ref") => `(tactic| (k_here; refine ntoa_bytes _ _ _ _ _ _ _ (by assumption) _ _ _ _ _ _ _ _ _ _ _ _ _ _ _ _ _ (by k_asm) (by k_asm) (by k_asm) (by k_asm) (by k_asm) (by rfl) (by ktr_room) (by ktr_units) ?_; intro _ _ _ F' N'))
local macro_rules | `(tactic| walk_at "call builtin:_struct.unpack") => `(tactic| (k_here; refine unpack_H (by simp) (by k_asm) (by k_asm) (by assumption) ?_; intro D' t' h' k' F' N' l1))
local macro_rules | `(tactic| walk_at "call builtin:isinstance") => `(tactic| (k_here; refine isi_ba ((by k_asm : News _ _ _ _) _ (by assumption)).1 ?_))
local macro_rules | `(tactic| walk_at "call type:bytes") => `(tactic| (k_here; refine call_bytes_ba ((by k_asm : News _ _ _ _) _ (by assumption)).1 (by rw [← KBw.ints_length, (by assumption : KBw.bInts _ = _)]; exact Nat.le_of_ble_eq_true rfl) ?_; intro _ _))
theorem unpack_ba {w : World} {mean : ExcName → Option Value} {mg mb : PySem.Str → Option Value} (news : List (Addr × Obj)) (D₀ : Addr) (b : Array UInt8) (x y z u p q : Int) (hk : KBw.bInts b = [x, y, z, u, p, q]) (hD : (D₀, baO b) ∈ news) :
    Claim w mean mg mb 178 news [.ref D₀] 4 (fun h₀ L m s Q => ∀ (D : Addr) (t1 t2 : Tok) (h' : Heap) (tk' : Nat), Fr h₀ L h' m → News h₀ L h' ((D, tupO [.str (dots x y z u) t1, .int (p * 256 + q) t2]) :: news) → (∀ p ∈ news, p.1 < D) → Q (.ref D) { s with heap := h', toks := tk' }) := by
  intro dp un gd cn cs a ccd cl outer A₀ base h₀ L m s Q E B F X N T hkind hdp hun hret
  refine wpAny_call ?_
  k_dflt ktr_enter
  k_steps
  all_goals first | exact hret _ _ _ _ _ (by assumption) (skip1 (by assumption)) (lt_all (by assumption : _ ∧ AllLt _ _).2)
end Mine
end
section
open PySem PySem.W PyProof.Rows PySem.Calls
set_option Elab.async false
set_option maxRecDepth 100000
set_option maxHeartbeats 4000000
set_option pp.deepTerms false
set_option pp.maxSteps 3000
namespace Mine
theorem off_N7 : True := by
  w_top off
  exact True.intro
local macro_rules | `(tactic| walk_at "eval Name") => `(tactic| (k_here; name_kind "globalImplicit"; k_dflt (first | (refine' nameX_K ?F ?X ?T ?e ?_ ?a ?b; (case F => k_asm); (case X => k_asm); (case T => k_asm); (case a => rfl); (case b => kernel_rfl); (case e => k_is); k_whole) | (refine' nameX_B ?F ?X ?T ?e ?v ?n ?_ ?a ?b; (case F => k_asm); (case X => k_asm); (case T => k_asm); (case a => rfl); (case b => kernel_rfl); (case e => k_is); (case v => boot_fast); (case n => decide); k_whole))))
local macro_rules | `(tactic| walk_at "eval Name") => `(tactic| (k_here; name_kind "local"; k_dflt (refine' nameX_L ?F ?v ?_ ?a ?b; (case F => k_asm); (case a => rfl); (case b => kernel_rfl); (case v => rfl); k_whole)))
local macro_rules | `(tactic| walk_at "eval Name") => `(tactic| (k_here; (with_reducible show wpAny _ _ (eval (Expr.Name (PySem.Str.ofString "bytearray") _) _) _ _ _); k_dflt (refine' nameX_B ?F ?X ?T ?e ?v ?n ?_ ?a ?b; (case F => k_asm); (case X => k_asm); (case T => k_asm); (case a => rfl); (case b => kernel_rfl); (case e => k_is); (case v => boot_by_name); (case n => decide); k_whole)))
theorem parts_ok {w : World} {mean : ExcName → Option Value} {mg mb : PySem.Str → Option Value} (news : List (Addr × Obj)) (n : Int) (t : Tok) :
    Claim w mean mg mb 185 news [.int n t] 1 (fun h₀ L m s Q => ∀ (D : Addr) (a b c d : Int) (t1 t2 t3 t4 : Tok) (h' : Heap) (tk' : Nat), KBa.In [a, b, c, d] → Fr h₀ L h' m → News h₀ L h' ((D, listOf #[.int a t1, .int b t2, .int c t3, .int d t4] 0) :: news) → (∀ p ∈ news, p.1 < D) → Q (.ref D) { s with heap := h', toks := tk' }) := by
  intro dp un gd cn cs a ccd cl outer A₀ base h₀ L m s Q E B F X N T hkind hdp hun hret
  refine wpAny_call ?_
  k_dflt ktr_enter
  k_steps
  refine hret _ _ _ _ _ _ _ _ _ _ _ ?_ (by assumption) (by assumption) (by assumption)
  intro k hk
  simp only [List.mem_cons, List.mem_nil_iff, or_false] at hk
  rcases hk with rfl | rfl | rfl | rfl <;> exact ⟨fmod_lo _ (by decide), fmod_hi _ (by decide)⟩
end Mine
end
section
open PySem PySem.W PyProof.Rows PySem.Calls
set_option Elab.async false
set_option maxRecDepth 100000
set_option maxHeartbeats 4000000
set_option pp.deepTerms false
set_option pp.maxSteps 3000
namespace Mine
theorem off_N9 : True := by
  w_top off
  exact True.intro
local macro_rules | `(tactic| walk_at "eval Name") => `(tactic| (k_here; (fail_if_success (with_reducible show wpAny _ _ (eval (Expr.Name _ _) (compEnvC _ _ _ _)) _ _ _)); name_kind "globalImplicit"; k_dflt (first | (refine' nameX_K ?F ?X ?T ?e ?_ ?a ?b; (case F => k_asm); (case X => k_asm); (case T => k_asm); (case a => rfl); (case b => kernel_rfl); (case e => k_is); k_whole) | (refine' nameX_B ?F ?X ?T ?e ?v ?n ?_ ?a ?b; (case F => k_asm); (case X => k_asm); (case T => k_asm); (case a => rfl); (case b => kernel_rfl); (case e => k_is); (case v => boot_fast); (case n => decide); k_whole))))
local macro_rules | `(tactic| walk_at "eval Name") => `(tactic| (k_here; (fail_if_success (with_reducible show wpAny _ _ (eval (Expr.Name _ _) (compEnvC _ _ _ _)) _ _ _)); name_kind "local"; k_dflt (refine' nameX_L ?F ?v ?_ ?a ?b; (case F => k_asm); (case a => rfl); (case b => kernel_rfl); (case v => rfl); k_whole)))
local macro_rules | `(tactic| walk_at "eval Name") => `(tactic| (k_here; (with_reducible show wpAny _ _ (eval (Expr.Name (PySem.Str.ofString "bytearray") _) _) _ _ _); k_dflt (refine' nameX_B ?F ?X ?T ?e ?v ?n ?_ ?a ?b; (case F => k_asm); (case X => k_asm); (case T => k_asm); (case a => rfl); (case b => kernel_rfl); (case e => k_is); (case v => boot_by_name); (case n => decide); k_whole)))
local macro_rules | `(tactic| walk_at "eval Name") => `(tactic| (k_here; (with_reducible show wpAny _ _ (eval (Expr.Name _ _) (compEnvC _ _ _ _)) _ _ _); k_dflt (first | refine LCgL.ld_own (by k_asm) (by k_mem) (by assumption) (by assumption) ?_ | refine LCgL.ld_built (by k_asm) (by k_asm) (by k_asm) (by k_is) (by boot_by_name) (by decide) ?_)))
local macro_rules | `(tactic| walk_at "CompEnd") => `(tactic| (refine LCg.CompEnd.intro (by assumption) (by assumption) _ (fun _ hp => hp) (by assumption) (by first | exact True.intro | assumption | exact List.mem_cons_of_mem _ (by assumption) | exact List.mem_cons_of_mem _ (List.mem_cons_of_mem _ (by assumption)) | exact Or.inl (by assumption) | exact Or.inr ⟨_, by k_mem, rfl, _, rfl⟩) ?_))
local macro_rules | `(tactic| walk_at "call builtin:str.join") => `(tactic| (k_here; (refine join4 (News.isList (by k_asm) (by k_mem)) (by decide +kernel) (Nat.le_trans (num_len (by omega) (by omega)) (by decide)) (Nat.le_trans (num_len (by omega) (by omega)) (by decide)) (Nat.le_trans (num_len (by omega) (by omega)) (by decide)) (Nat.le_trans (num_len (by omega) (by omega)) (by decide)) ?_); intro _ _))
theorem law_dots {w : World} {mean : ExcName → Option Value} {mg mb : PySem.Str → Option Value} (news : List (Addr × Obj)) (D : Addr) (x y z u : Int) (t1 t2 t3 t4 : Tok) (hin : KBa.In [x, y, z, u]) (hD : (D, listOf #[.int x t1, .int y t2, .int z t3, .int u t4] 0) ∈ news) :
    Claim w mean mg mb 190 news [.ref D] 2 (Gives1 news fun t => .str (dots x y z u) t) := by
  intro dp un gd cn cs a ccd cl outer A₀ base h₀ L m s Q E B F X N T hkind hdp hun hret
  refine wpAny_call ?_
  k_dflt ktr_enter
  have hx := hin x (by simp)
  have hy := hin y (by simp)
  have hz := hin z (by simp)
  have hu := hin u (by simp)
  k_steps
  all_goals (first | exact hret _ _ _ (by assumption) (by assumption) | exact hret _ _ _ (by assumption) (fun p hp => (by assumption : News _ _ _ (_ :: _)) p (.tail _ hp)) | exact hret _ _ _ (by assumption) (fun p hp => (by assumption : News _ _ _ (_ :: _ :: _)) p (.tail _ (.tail _ hp))) | exact hret _ _ _ (by assumption) (fun p hp => (by assumption : News _ _ _ (_ :: _ :: _ :: _)) p (.tail _ (.tail _ (.tail _ hp)))) | exact hret _ _ _ (by assumption) (fun p hp => (by assumption : News _ _ _ (_ :: _ :: _ :: _ :: _)) p (.tail _ (.tail _ (.tail _ (.tail _ hp))))))
end Mine
end
section
open PySem PySem.W PyProof.Rows PySem.Calls
set_option Elab.async false
set_option maxRecDepth 100000
set_option maxHeartbeats 4000000
set_option pp.deepTerms false
set_option pp.maxSteps 3000
namespace Mine
theorem off_N10 : True := by
  w_top off
  exact True.intro
local macro_rules | `(tactic| walk_at "no such step") => `(tactic| fail)
local macro_rules | `(tactic| walk_at "eval Name") => `(tactic| (k_here; (fail_if_success (with_reducible show wpAny _ _ (eval (Expr.Name _ _) (compEnvC _ _ _ _)) _ _ _)); name_kind "globalImplicit"; k_dflt (first | (refine' nameX_K ?F ?X ?T ?e ?_ ?a ?b; (case F => k_asm); (case X => k_asm); (case T => k_asm); (case a => rfl); (case b => kernel_rfl); (case e => k_is); k_whole) | (refine' nameX_B ?F ?X ?T ?e ?v ?n ?_ ?a ?b; (case F => k_asm); (case X => k_asm); (case T => k_asm); (case a => rfl); (case b => kernel_rfl); (case e => k_is); (case v => boot_fast); (case n => decide); k_whole))))
local macro_rules | `(tactic| walk_at "eval Name") => `(tactic| (k_here; (fail_if_success (with_reducible show wpAny _ _ (eval (Expr.Name _ _) (compEnvC _ _ _ _)) _ _ _)); name_kind "local"; k_dflt (refine' nameX_L ?F ?v ?_ ?a ?b; (case F => k_asm); (case a => rfl); (case b => kernel_rfl); (case v => rfl); k_whole)))
local macro_rules | `(tactic| walk_at "eval Name") => `(tactic| (k_here; (with_reducible show wpAny _ _ (eval (Expr.Name (PySem.Str.ofString "bytearray") _) _) _ _ _); k_dflt (refine' nameX_B ?F ?X ?T ?e ?v ?n ?_ ?a ?b; (case F => k_asm); (case X => k_asm); (case T => k_asm); (case a => rfl); (case b => kernel_rfl); (case e => k_is); (case v => boot_by_name); (case n => decide); k_whole)))
local macro_rules | `(tactic| walk_at "eval Name") => `(tactic| (k_here; (with_reducible show wpAny _ _ (eval (Expr.Name _ _) (compEnvC _ _ _ _)) _ _ _); k_dflt (first | refine LCgL.ld_own (by k_asm) (by k_mem) (by assumption) (by assumption) ?_ | refine LCgL.ld_built (by k_asm) (by k_asm) (by k_asm) (by k_is) (by boot_by_name) (by decide) ?_)))
local macro_rules | `(tactic| walk_at "CompEnd") => `(tactic| (refine LCg.CompEnd.intro (by assumption) (by assumption) _ (fun _ hp => hp) (by assumption) (by first | exact True.intro | assumption | exact List.mem_cons_of_mem _ (by assumption) | exact List.mem_cons_of_mem _ (List.mem_cons_of_mem _ (by assumption)) | exact Or.inl (by assumption) | exact Or.inr ⟨_, by k_mem, rfl, _, rfl⟩) ?_))
abbrev zn (n : Int) : PySem.Str := PySem.Str.ofString "0" ++ num n
theorem zn_len {n : Int} (h0 : 0 ≤ n) (h1 : n < 1000000000) : (zn n).length ≤ 100000 := by
  have h := num_len h0 h1
  show (PySem.Str.ofString "0" ++ num n).length ≤ _
  rw [PySem.Str.length_append]
  have : (PySem.Str.ofString "0").length = 1 := by decide +kernel
  omega
local macro_rules | `(tactic| walk_at "call builtin:str.join") => `(tactic| (k_here; (refine join4 (News.isList (by k_asm) (by k_mem)) (by decide +kernel) (zn_len (by omega) (by omega)) (zn_len (by omega) (by omega)) (zn_len (by omega) (by omega)) (zn_len (by omega) (by omega)) ?_); intro _ _))
theorem law_padded {w : World} {mean : ExcName → Option Value} {mg mb : PySem.Str → Option Value} (news : List (Addr × Obj)) (D : Addr) (x y z u : Int) (t1 t2 t3 t4 : Tok) (hin : KBa.In [x, y, z, u]) (hD : (D, listOf #[.int x t1, .int y t2, .int z t3, .int u t4] 0) ∈ news) :
    Claim w mean mg mb 195 news [.ref D] 2 (Gives1 news fun t => .str (PySem.Txt.join (PySem.Str.ofString ".") [zn x, zn y, zn z, zn u]) t) := by
  intro dp un gd cn cs a ccd cl outer A₀ base h₀ L m s Q E B F X N T hkind hdp hun hret
  refine wpAny_call ?_
  k_dflt ktr_enter
  have hx := hin x (by simp)
  have hy := hin y (by simp)
  have hz := hin z (by simp)
  have hu := hin u (by simp)
  k_steps
  all_goals (first | exact hret _ _ _ (by assumption) (by assumption) | exact hret _ _ _ (by assumption) (fun p hp => (by assumption : News _ _ _ (_ :: _)) p (.tail _ hp)) | exact hret _ _ _ (by assumption) (fun p hp => (by assumption : News _ _ _ (_ :: _ :: _)) p (.tail _ (.tail _ hp))) | exact hret _ _ _ (by assumption) (fun p hp => (by assumption : News _ _ _ (_ :: _ :: _ :: _)) p (.tail _ (.tail _ (.tail _ hp)))) | exact hret _ _ _ (by assumption) (fun p hp => (by assumption : News _ _ _ (_ :: _ :: _ :: _ :: _)) p (.tail _ (.tail _ (.tail _ (.tail _ hp))))))
end Mine
end
section
open PySem PySem.W PyProof.Rows PySem.Calls
open Sem (wp)
set_option Elab.async false
set_option maxRecDepth 100000
namespace Mine
theorem sub_str_bytes : isSubtype (.type "str") (.type "bytes") = pure false := by rw [isSubtype_type]; kernel_rfl
theorem by_eq_str (a : Array UInt8) (t : Tok) (b : PySem.Str) (u : Tok) :
    Gives (Builtin.«bytes.__eq__» ⟨[.bytes a t, .str b u], []⟩) (.val (Value.notImplemented)) := by
  refine .of_wp fun M A E s Q hq => ?_
  show wpAny M A (isInstance (.str b u) (.type "bytes") >>= fun r => _) _ E s
  refine wpAny_bind (wpAny_isInstance (typeIs_str s b u) sub_str_bytes ?_)
  try refine bm_if_false rfl ?_
  try refine wpAny_bind (wpAny_isInstance (typeIs_str s b u) sub_str_bytes ?_)
  refine bm_if_true rfl ?_
  exact wpAny_bind (wpAny_rule (wpAny_pure ⟨_, rfl, hq⟩))
theorem str_eq_by (a : Array UInt8) (t : Tok) (b : PySem.Str) (u : Tok) :
    Gives (Builtin.«str.__eq__» ⟨[.str b u, .bytes a t], []⟩) (.val (Value.notImplemented)) :=
  .of_wp fun M A E s Q h => by obtain ⟨hp, g, d, tk, os⟩ := s; wp_walk; exact ⟨_, rfl, h⟩
theorem look_bytes : typeLookup (.type "bytes") "__bytes__" = pure (some (.builtin "bytes.__bytes__")) := by rw [typeLookup_type, builtinLookup_eq_fast]; kernel_rfl
section
variable {prog : Program} {w : World} {A : Around} {E : Value → Shared → Prop} {s : Shared} {Q : Value → Shared → Prop}
theorem eq_bytes_str {a : Array UInt8} {t : Tok} {b : PySem.Str} {u : Tok} (h : Q (.bool false) s) : wpAny (model prog w) A (compareOp .Eq (.bytes a t) (.str b u)) Q E s := by
  show wpAny _ A (richCompare .Eq _ _) Q E s
  exact EqNone.wpAny_richCompare_eq_decline (k := false) (fun s' => PySem.W.typeIs_bytes s' a t) (fun s' => typeIs_str s' b u) (by decide) sub_str_bytes FB.slot_bytes_eq F.slot_str_eq_refl rfl
    (call_gives FB.slot_bytes_eq (PySem.W.typeIs_bytes s a t) FB.entry_bytes_eq (FB.args_bytes_eq_2 _ _) (by_eq_str a t b u)
      ⟨rfl, call_gives F.slot_str_eq_refl (typeIs_str s b u) F.entry_str_eq (F.args_str_eq_2 _ _) (str_eq_by a t b u) ⟨rfl, h⟩⟩)
theorem eq_tup_str {h₀ : Heap} {L : Addr} {news : List (Addr × Obj)} {D : Addr} {vs : Array Value} {b : PySem.Str} {u : Tok} (N : News h₀ L s.heap news) (hD : (D, ({ cls := .type "tuple", data := .seq vs } : Obj)) ∈ news) (hu : A.units < cLine) (h : Q (.bool false) s) : wpAny (model prog w) A (compareOp .Eq (.ref D) (.str b u)) Q E s :=
  SeqAt.RcAt.tuple_str (items := vs) b u ⟨_, (N _ hD).1, rfl, _, rfl⟩ hu prog w E Q h
theorem by_new_by {b : Array UInt8} {t : Tok} {R : Value → Shared → Prop} (h : R (.bytes b t) s) :
    codeAny (model prog w) A (.call (.builtin "bytes.__new__") ⟨[.type "bytes", .bytes b t], []⟩) (wants R E) s := by
  refine codeAny_of_tree ?_
  show wpAny _ A.in1 (do checkBuiltinCall "bytes.__new__" ⟨[.type "bytes", .bytes b t], []⟩; again (.builtin "bytes.__new__" ⟨[.type "bytes", .bytes b t], []⟩)) _ _ s
  refine wpAny_bind (wpAny_of_eq (F.bm_newCall _) (wpAny_pure ⟨plainId_quiet F.bm_plain _, codeAny_builtin F.bm_entry ?_⟩))
  rw [Around.under_plainId F.bm_plain _]
  unfold Builtin.«bytes.__new__»
  refine wpAny_bind (wpAny_of_eq (a := true) rfl ?_)
  refine bm_if_false rfl ?_
  refine wpAny_bind (wpAny_of_eq F.bm_sub ?_)
  refine bm_if_false rfl ?_
  refine wpAny_bind (wpAny_of_eq (F.bm_bind _) ?_)
  refine wpAny_bind (wpAny_of_eq (a := ()) rfl ?_)
  refine wpAny_bind (wpAny_of_eq (a := ()) rfl ?_)
  refine bm_if_false rfl ?_
  refine wpAny_bind (wpAny_specialOf (PySem.W.typeIs_bytes s b t) look_bytes ?_)
  dsimp only
  refine wpAny_bind (wpAny_rule ?_)
  refine wpAny_bind (wpAny_typeOf (PySem.W.typeIs_bytes s b t) ?_)
  refine bm_if_true (by decide) ?_
  show wpAny _ _ (if (Value.type "bytes" == Value.type "bytes") = true then _ else _) _ _ _
  refine bm_if_true (by decide) ?_
  first
    | exact wpAny_pure h
    | exact wpAny_bind (wpAny_pure (wpAny_pure h))
theorem call_bytes_by {b : Array UInt8} {t : Tok} {R : Value → Shared → Prop} (h : R (.bytes b t) s) : wpAny (model prog w) A (call (.type "bytes") [.bytes b t]) R E s := by
  refine callType_codes (Q₁ := fun obj s₁ => s₁.TypeIs obj "bytes" ∧ R obj s₁) F.bm_called (F.bm_typeCall _) F.entry_object_init
    (by_new_by ⟨PySem.W.typeIs_bytes _ _ _, h⟩) fun obj s₁ h₁ => ?_
  exact ⟨h₁.1, F.args_object_init_2 obj _, object_init_meets F.bm_called.init.lookup F.bm_called.made (by decide) prog w A.in1 _ s₁ ⟨h₁.1, rfl, h₁.2⟩⟩
end
end Mine
namespace Mine
theorem first4 {b b' : Array UInt8} {x y z u p q : Int} (_ : KBw.bInts b = [x, y, z, u, p, q]) (h : KBw.bInts b' = List.take (clipAt [x, y, z, u, p, q].length 4) [x, y, z, u, p, q]) : KBw.bInts b' = [x, y, z, u] := by
  rw [h]
  have e : clipAt [x, y, z, u, p, q].length 4 = 4 := by first | rfl | (simp [clipAt]) | decide
  rw [e]; rfl
theorem last2 {b b' : Array UInt8} {x y z u p q : Int} (_ : KBw.bInts b = [x, y, z, u, p, q]) (h : KBw.bInts b' = List.take ([x, y, z, u, p, q].length - clipAt [x, y, z, u, p, q].length 4) (List.drop (clipAt [x, y, z, u, p, q].length 4) [x, y, z, u, p, q])) : KBw.bInts b' = [p, q] := by
  rw [h]
  have e : clipAt [x, y, z, u, p, q].length 4 = 4 := by first | rfl | (simp [clipAt]) | decide
  rw [e]; rfl
end Mine
end
section
open PySem PySem.W PyProof.Rows PySem.Calls
set_option Elab.async false
set_option maxRecDepth 100000
set_option maxHeartbeats 4000000
set_option pp.deepTerms false
set_option pp.maxSteps 3000
namespace Mine
theorem off_N11 : True := by
  w_top off
  exact True.intro
local macro_rules | `(tactic| walk_at "no such step") => `(tactic| fail)
local macro_rules | `(tactic| walk_at "eval Name") => `(tactic| (k_here; (fail_if_success (with_reducible show wpAny _ _ (eval (Expr.Name _ _) (compEnvC _ _ _ _)) _ _ _)); name_kind "globalImplicit"; k_dflt (first | (refine' nameX_K ?F ?X ?T ?e ?_ ?a ?b; (case F => k_asm); (case X => k_asm); (case T => k_asm); (case a => rfl); (case b => kernel_rfl); (case e => k_is); k_whole) | (refine' nameX_B ?F ?X ?T ?e ?v ?n ?_ ?a ?b; (case F => k_asm); (case X => k_asm); (case T => k_asm); (case a => rfl); (case b => kernel_rfl); (case e => k_is); (case v => boot_fast); (case n => decide); k_whole))))
local macro_rules | `(tactic| walk_at "eval Name") => `(tactic| (k_here; (fail_if_success (with_reducible show wpAny _ _ (eval (Expr.Name _ _) (compEnvC _ _ _ _)) _ _ _)); name_kind "local"; k_dflt (refine' nameX_L ?F ?v ?_ ?a ?b; (case F => k_asm); (case a => rfl); (case b => kernel_rfl); (case v => rfl); k_whole)))
local macro_rules | `(tactic| walk_at "eval Name") => `(tactic| (k_here; (with_reducible show wpAny _ _ (eval (Expr.Name (PySem.Str.ofString "bytearray") _) _) _ _ _); k_dflt (refine' nameX_B ?F ?X ?T ?e ?v ?n ?_ ?a ?b; (case F => k_asm); (case X => k_asm); (case T => k_asm); (case a => rfl); (case b => kernel_rfl); (case e => k_is); (case v => boot_by_name); (case n => decide); k_whole)))
local macro_rules | `(tactic| walk_at "eval Name") => `(tactic| (k_here; (with_reducible show wpAny _ _ (eval (Expr.Name _ _) (compEnvC _ _ _ _)) _ _ _); k_dflt (first | refine LCgL.ld_own (by k_asm) (by k_mem) (by assumption) (by assumption) ?_ | refine LCgL.ld_built (by k_asm) (by k_asm) (by k_asm) (by k_is) (by boot_by_name) (by decide) ?_)))
local macro_rules | `(tactic| walk_at "CompEnd") => `(tactic| (refine LCg.CompEnd.intro (by assumption) (by assumption) _ (fun _ hp => hp) (by assumption) (by first | exact True.intro | assumption | exact List.mem_cons_of_mem _ (by assumption) | exact List.mem_cons_of_mem _ (List.mem_cons_of_mem _ (by assumption)) | exact Or.inl (by assumption) | exact Or.inr ⟨_, by k_mem, rfl, _, rfl⟩) ?_))
local macro_rules | `(tactic| walk_at "call builtin:str.join") => `(tactic| (k_here; (refine join4 (News.isList (by k_asm) (by k_mem)) (by decide +kernel) (by first | exact Nat.le_trans (by assumption) (by decide) | exact Nat.le_trans (num_len (by omega) (by omega)) (by decide)) (by first | exact Nat.le_trans (by assumption) (by decide) | exact Nat.le_trans (num_len (by omega) (by omega)) (by decide)) (by first | exact Nat.le_trans (by assumption) (by decide) | exact Nat.le_trans (num_len (by omega) (by omega)) (by decide)) (by first | exact Nat.le_trans (by assumption) (by decide) | exact Nat.le_trans (num_len (by omega) (by omega)) (by decide)) ?_); intro _ _))
theorem off1_mem {D : Addr} : ∀ {l : List (Addr × Obj)}, LCg.Off1 D l → ∀ p ∈ l, p.1 ≠ D
  | [], _ => fun p hp => nomatch hp
  | q :: r, h => fun p hp => (List.mem_cons.mp hp).elim (fun e => e ▸ h.1) (off1_mem h.2 p)
theorem set_head {prog : Program} {w : World} {A : Around} {E : Value → Shared → Prop} {s : Shared} {h₀ : Heap} {L D : Addr} {m : PySem.Str → Option Value} {news : List (Addr × Obj)} {its : List Value} {n : Nat} {k : Int} {t : Tok} {v : Value} {Q : Unit → Shared → Prop}
    (F : Fr h₀ L s.heap m) (N : News h₀ L s.heap ((D, listOf its.toArray n) :: news)) (o : ∀ p ∈ news, p.1 ≠ D) (h0 : 0 ≤ k) (hfit : k < 2 ^ 63) (hk : k < its.length)
    (h : ∀ h', Fr h₀ L h' m → News h₀ L h' ((D, listOf (its.set k.toNat v).toArray n) :: news) → Q () { s with heap := h' }) : wpAny (model prog w) A (setItem (.ref D) (.int k t) v) Q E s := by
  have z := N _ (List.mem_cons_self ..)
  refine ki_setAt z.1 h0 hfit (by simpa using hk) (h _ (F.change (Heap.SameBut.update ..) z.2.1 z.2.2) (ki_turn (pre := []) _ N (fun p hp => nomatch hp) o ?_ ?_))
  · show its.toArray.setIfInBounds k.toNat v = (its.set k.toNat v).toArray
    apply Array.toList_inj.mp
    simp
  · simp
local macro_rules | `(tactic| walk_at "setItem ref int") => `(tactic| (k_here; k_dflt (refine set_head (by k_asm) (by k_asm) (off1_mem (by assumption)) (by decide) (by decide) (by simp) ?_); intro h' F' N'))
theorem law_with0 {w : World} {mean : ExcName → Option Value} {mg mb : PySem.Str → Option Value} (news : List (Addr × Obj)) (D : Addr) (x y z u : Int) (t1 t2 t3 t4 tp tw : Tok) (wd : PySem.Str) (hw : wd.length ≤ 100) (hin : KBa.In [x, y, z, u]) (hD : (D, listOf #[.int x t1, .int y t2, .int z t3, .int u t4] 0) ∈ news) :
    Claim w mean mg mb 200 news [.ref D, .int 0 tp, .str wd tw] 2 (Gives1 news fun t => .str (PySem.Txt.join (PySem.Str.ofString ".") [wd, num y, num z, num u]) t) := by
  intro dp un gd cn cs a ccd cl outer A₀ base h₀ L m s Q E B F X N T hkind hdp hun hret
  refine wpAny_call ?_
  k_dflt ktr_enter
  have hx := hin x (by simp)
  have hy := hin y (by simp)
  have hz := hin z (by simp)
  have hu := hin u (by simp)
  k_steps
  all_goals (first | exact hret _ _ _ (by assumption) (by assumption) | exact hret _ _ _ (by assumption) (fun p hp => (by assumption : News _ _ _ (_ :: _)) p (.tail _ hp)) | exact hret _ _ _ (by assumption) (fun p hp => (by assumption : News _ _ _ (_ :: _ :: _)) p (.tail _ (.tail _ hp))) | exact hret _ _ _ (by assumption) (fun p hp => (by assumption : News _ _ _ (_ :: _ :: _ :: _)) p (.tail _ (.tail _ (.tail _ hp)))) | exact hret _ _ _ (by assumption) (fun p hp => (by assumption : News _ _ _ (_ :: _ :: _ :: _ :: _)) p (.tail _ (.tail _ (.tail _ (.tail _ hp))))))
theorem law_with1 {w : World} {mean : ExcName → Option Value} {mg mb : PySem.Str → Option Value} (news : List (Addr × Obj)) (D : Addr) (x y z u : Int) (t1 t2 t3 t4 tp tw : Tok) (wd : PySem.Str) (hw : wd.length ≤ 100) (hin : KBa.In [x, y, z, u]) (hD : (D, listOf #[.int x t1, .int y t2, .int z t3, .int u t4] 0) ∈ news) :
    Claim w mean mg mb 200 news [.ref D, .int 1 tp, .str wd tw] 2 (Gives1 news fun t => .str (PySem.Txt.join (PySem.Str.ofString ".") [num x, wd, num z, num u]) t) := by
  intro dp un gd cn cs a ccd cl outer A₀ base h₀ L m s Q E B F X N T hkind hdp hun hret
  refine wpAny_call ?_
  k_dflt ktr_enter
  have hx := hin x (by simp)
  have hy := hin y (by simp)
  have hz := hin z (by simp)
  have hu := hin u (by simp)
  k_steps
  all_goals (first | exact hret _ _ _ (by assumption) (by assumption) | exact hret _ _ _ (by assumption) (fun p hp => (by assumption : News _ _ _ (_ :: _)) p (.tail _ hp)) | exact hret _ _ _ (by assumption) (fun p hp => (by assumption : News _ _ _ (_ :: _ :: _)) p (.tail _ (.tail _ hp))) | exact hret _ _ _ (by assumption) (fun p hp => (by assumption : News _ _ _ (_ :: _ :: _ :: _)) p (.tail _ (.tail _ (.tail _ hp)))) | exact hret _ _ _ (by assumption) (fun p hp => (by assumption : News _ _ _ (_ :: _ :: _ :: _ :: _)) p (.tail _ (.tail _ (.tail _ (.tail _ hp))))))
theorem law_with2 {w : World} {mean : ExcName → Option Value} {mg mb : PySem.Str → Option Value} (news : List (Addr × Obj)) (D : Addr) (x y z u : Int) (t1 t2 t3 t4 tp tw : Tok) (wd : PySem.Str) (hw : wd.length ≤ 100) (hin : KBa.In [x, y, z, u]) (hD : (D, listOf #[.int x t1, .int y t2, .int z t3, .int u t4] 0) ∈ news) :
    Claim w mean mg mb 200 news [.ref D, .int 2 tp, .str wd tw] 2 (Gives1 news fun t => .str (PySem.Txt.join (PySem.Str.ofString ".") [num x, num y, wd, num u]) t) := by
  intro dp un gd cn cs a ccd cl outer A₀ base h₀ L m s Q E B F X N T hkind hdp hun hret
  refine wpAny_call ?_
  k_dflt ktr_enter
  have hx := hin x (by simp)
  have hy := hin y (by simp)
  have hz := hin z (by simp)
  have hu := hin u (by simp)
  k_steps
  all_goals (first | exact hret _ _ _ (by assumption) (by assumption) | exact hret _ _ _ (by assumption) (fun p hp => (by assumption : News _ _ _ (_ :: _)) p (.tail _ hp)) | exact hret _ _ _ (by assumption) (fun p hp => (by assumption : News _ _ _ (_ :: _ :: _)) p (.tail _ (.tail _ hp))) | exact hret _ _ _ (by assumption) (fun p hp => (by assumption : News _ _ _ (_ :: _ :: _ :: _)) p (.tail _ (.tail _ (.tail _ hp)))) | exact hret _ _ _ (by assumption) (fun p hp => (by assumption : News _ _ _ (_ :: _ :: _ :: _ :: _)) p (.tail _ (.tail _ (.tail _ (.tail _ hp))))))
theorem law_with3 {w : World} {mean : ExcName → Option Value} {mg mb : PySem.Str → Option Value} (news : List (Addr × Obj)) (D : Addr) (x y z u : Int) (t1 t2 t3 t4 tp tw : Tok) (wd : PySem.Str) (hw : wd.length ≤ 100) (hin : KBa.In [x, y, z, u]) (hD : (D, listOf #[.int x t1, .int y t2, .int z t3, .int u t4] 0) ∈ news) :
    Claim w mean mg mb 200 news [.ref D, .int 3 tp, .str wd tw] 2 (Gives1 news fun t => .str (PySem.Txt.join (PySem.Str.ofString ".") [num x, num y, num z, wd]) t) := by
  intro dp un gd cn cs a ccd cl outer A₀ base h₀ L m s Q E B F X N T hkind hdp hun hret
  refine wpAny_call ?_
  k_dflt ktr_enter
  have hx := hin x (by simp)
  have hy := hin y (by simp)
  have hz := hin z (by simp)
  have hu := hin u (by simp)
  k_steps
  all_goals (first | exact hret _ _ _ (by assumption) (by assumption) | exact hret _ _ _ (by assumption) (fun p hp => (by assumption : News _ _ _ (_ :: _)) p (.tail _ hp)) | exact hret _ _ _ (by assumption) (fun p hp => (by assumption : News _ _ _ (_ :: _ :: _)) p (.tail _ (.tail _ hp))) | exact hret _ _ _ (by assumption) (fun p hp => (by assumption : News _ _ _ (_ :: _ :: _ :: _)) p (.tail _ (.tail _ (.tail _ hp)))) | exact hret _ _ _ (by assumption) (fun p hp => (by assumption : News _ _ _ (_ :: _ :: _ :: _ :: _)) p (.tail _ (.tail _ (.tail _ (.tail _ hp))))))
end Mine
end
section
open PySem PySem.W PyProof.Rows PySem.Calls
set_option Elab.async false
set_option maxRecDepth 100000
set_option maxHeartbeats 4000000
set_option pp.deepTerms false
set_option pp.maxSteps 3000
namespace Mine
theorem off_N12 : True := by
  w_top off
  exact True.intro
local macro_rules | `(tactic| k_room) => `(tactic| ktr_room)
local macro_rules | `(tactic| k_mem) => `(tactic| with_reducible first | assumption | (apply List.mem_cons_of_mem; first | assumption | (apply List.mem_cons_of_mem; first | assumption | (apply List.mem_cons_of_mem; first | assumption | (apply List.mem_cons_of_mem; first | assumption | (apply List.mem_cons_of_mem; assumption))))))
local macro_rules | `(tactic| walk_at "eval Name") => `(tactic| (k_here; name_kind "globalImplicit"; k_dflt (first | (refine' nameX_K ?F ?X ?T ?e ?_ ?a ?b; (case F => k_asm); (case X => k_asm); (case T => k_asm); (case a => rfl); (case b => kernel_rfl); (case e => k_is); k_whole) | (refine' nameX_B ?F ?X ?T ?e ?v ?n ?_ ?a ?b; (case F => k_asm); (case X => k_asm); (case T => k_asm); (case a => rfl); (case b => kernel_rfl); (case e => k_is); (case v => boot_fast); (case n => decide); k_whole))))
local macro_rules | `(tactic| walk_at "eval Name") => `(tactic| (k_here; name_kind "local"; k_dflt (refine' nameX_L ?F ?v ?_ ?a ?b; (case F => k_asm); (case a => rfl); (case b => kernel_rfl); (case v => rfl); k_whole)))
local macro_rules | `(tactic| walk_at "eval Name") => `(tactic| (k_here; (with_reducible show wpAny _ _ (eval (Expr.Name (PySem.Str.ofString "bytearray") _) _) _ _ _); k_dflt (refine' nameX_B ?F ?X ?T ?e ?v ?n ?_ ?a ?b; (case F => k_asm); (case X => k_asm); (case T => k_asm); (case a => rfl); (case b => kernel_rfl); (case e => k_is); (case v => boot_by_name); (case n => decide); k_whole)))
local macro_rules | `(tactic| walk_at "exec If") => `(tactic| refine wpAny_If ?_)
local macro_rules | `(tactic| walk_at "getAttr ref") => `(tactic| (k_here; k_dflt (refine' get_own ?k1 ?k2 ?k3 ?k4 ?k5 ?k6 ?k7 ?k8 ?k9 ?_; (case k1 => k_asm); (case k2 => k_asm); (case k3 => k_inst); (case k4 => k_is); (case k5 => k_is); (case k6 => k_is); (case k7 => k_is); (case k8 => k_get); (case k9 => k_handed); k_whole)))
local macro_rules | `(tactic| walk_at "subscriptTail Call") => `(tactic| (k_here; (with_reducible show wpAny _ _ (subscriptTail _ _ (Value.ref _) (Value.int _ _)) _ _ _); k_dflt (refine' item_tupleT ?t ?a ?b ?c ?d ?_; (case t => exact News.isTup (by k_asm) (by k_mem)); (case a => decide); (case b => decide); (case c => rfl); (case d => rfl); k_whole)))
local macro_rules | `(tactic| ktr_units) => `(tactic| (have hcL9 := cLine_is; (try simp only [units_under_make, units_in1, units_deeper, Around.mark_units, units_caller]); (try dsimp only [ktrTop]); omega))
theorem aton_dots {w : World} {mean : ExcName → Option Value} {mg mb : PySem.Str → Option Value} (news : List (Addr × Obj)) (t : Tok) (a b c d : Int) (hin : KBa.In [a, b, c, d]) :
    Claim w mean mg mb 57 news [.str (dots a b c d) t] 2 (Gives1 news fun t => .bytes (byteArr [a, b, c, d]) t) := by
  have h1 := dots_len hin
  exact aton_ok news _ t (num a) (num b) (num c) (num d) a b c d (dots_split hin) (by omega) (num_reads (hin a (by simp))) (num_reads (hin b (by simp))) (num_reads (hin c (by simp))) (num_reads (hin d (by simp)))
    (Nat.le_trans (num_len (hin a (by simp)).1 (by have := hin a (by simp); omega)) (by decide)) (Nat.le_trans (num_len (hin b (by simp)).1 (by have := hin b (by simp); omega)) (by decide)) (Nat.le_trans (num_len (hin c (by simp)).1 (by have := hin c (by simp); omega)) (by decide)) (Nat.le_trans (num_len (hin d (by simp)).1 (by have := hin d (by simp); omega)) (by decide)) hin
local macro_rules | `(tactic| walk_at "call ref") => `(tactic| (k_here; k_dflt (refine aton_dots _ _ _ _ _ _ (by assumption) _ _ _ _ _ _ _ _ _ _ _ _ _ _ _ _ _ (by k_asm) (by k_asm) (by k_asm) (by k_asm) (by k_asm) (by rfl) (by ktr_room) (by ktr_units) ?_); intro _ _ _ F' N'))
local macro_rules | `(tactic| walk_at "call ref") => `(tactic| (k_here; k_dflt (refine ntoa_bytes _ _ _ _ _ _ _ (by first | exact first4 (by assumption) (by assumption) | assumption | with_unfolding_all assumption) _ _ _ _ _ _ _ _ _ _ _ _ _ _ _ _ _ (by k_asm) (by k_asm) (by k_asm) (by k_asm) (by k_asm) (by rfl) (by ktr_room) (by ktr_units) ?_); intro _ _ _ F' N'))
local macro_rules | `(tactic| walk_at "call builtin:_struct.unpack") => `(tactic| (k_here; refine unpack_H (by simp) (by k_asm) (by k_asm) (by first | exact last2 (by assumption) (by assumption) | assumption | with_unfolding_all assumption) ?_; intro D' t' h' k' F' N' l1; (try k_lt l1)))
local macro_rules | `(tactic| walk_at "call builtin:_struct.unpack") => `(tactic| (k_here; refine unpack_L (by k_asm) (by k_asm) (by first | assumption | with_unfolding_all assumption | exact KBa.ints_make (by assumption)) ?_; intro D' t' h' k' F' N' l1; (try k_lt l1)))
local macro_rules | `(tactic| walk_at "call builtin:_struct.pack") => `(tactic| (k_here; (rw [PyProof.Rows.bitAnd_m16]); refine pack_H (by omega) (by omega) ?_; intro _ _))
local macro_rules | `(tactic| walk_at "compareOp Eq bytes str") => `(tactic| (refine eq_bytes_str ?_))
local macro_rules | `(tactic| walk_at "compareOp Eq ref str") => `(tactic| (k_here; refine eq_tup_str (by k_asm) (by k_mem) (by ktr_units) ?_))
local macro_rules | `(tactic| walk_at "call type:bytes") => `(tactic| (k_here; refine call_bytes_by ?_))
theorem len6a {prog : Program} {w : World} {A : Around} {E : Value → Shared → Prop} {s : Shared} {b : Array UInt8} {x y z u p q : Int} {t : Tok} {Q : Value → Shared → Prop} (hk : KBw.bInts b = [x, y, z, u, p, q])
   (h : ∀ t' k, Q (.int 6 t') { s with toks := k }) : wpAny (model prog w) A (call (.builtin "len") [.bytes b t]) Q E s :=
  KBw.len_K hk (by simp) (h _ _)
local macro_rules | `(tactic| walk_at "call builtin:len") => `(tactic| (k_here; refine len6a (by assumption) ?_; intro _ _))
theorem truthy_longa {prog : Program} {w : World} {A : Around} {E : Value → Shared → Prop} {s : Shared} {x : PySem.Str} {t : Tok} {Q : Bool → Shared → Prop} (hk : 1 ≤ x.length ∧ x.length ≤ 1000)
   (h : ∀ k, Q true { s with toks := k }) : wpAny (model prog w) A (truthy (.str x t)) Q E s := by
  refine PySem.P.truthy_str (by omega) ?_
  have e : ((x.length : Int) != 0) = true := by simp; omega
  rw [e]
  exact h _
local macro_rules | `(tactic| walk_at "truthy str") => `(tactic| (k_here; refine truthy_longa (by assumption) ?_; intro _))
theorem addr_pair {w : World} {mean : ExcName → Option Value} {mg mb : PySem.Str → Option Value} (news : List (Addr × Obj)) (D : Addr) (x y z u p q : Int) (t t2 : Tok) (hin : KBa.In [x, y, z, u]) (hp : 0 ≤ p ∧ p < 256) (hq : 0 ≤ q ∧ q < 256) (hdl : 1 ≤ (dots x y z u).length ∧ (dots x y z u).length ≤ 1000) (hD : (D, tupO [.str (dots x y z u) t, .int (p * 256 + q) t2]) ∈ news) :
    Claim w mean mg mb 160 news [.ref D] 8 (AddrPost news x y z u p q) := by
  intro dp un gd cn cs a ccd cl outer A₀ base h₀ L m s Q E B F X N T hkind hdp hun hret
  k_dflt (refine' call_cls ?k1 ?k2 ?k3 ?k4 ?k5 ?k6 ?_; (case k1 => k_asm); (case k2 => k_asm); (case k3 => k_asm); (case k4 => k_is); (case k5 => k_is); (case k6 => k_is); k_whole; intro x' d' h' F' N' l1 l2; (try k_lt l1); (try k_lt2 l2); (try k_sweep); (refine' kp_rest ?k1 ?k2 ?k3 ?k4 ?k5 ?kA ?kF ?kK ?k6 ?k7 ?k8 ?kV ?kP ?kG ?kB ?_ ?c2 ?c3 ?c4 ?c5; (case kA => exact rfl); (case kF => exact rfl); (case kK => assumption); (case k1 => k_asm); (case k2 => k_asm); (case k3 => k_asm); (case k4 => k_asm); (case k5 => k_asm); (case k6 => k_is); (case k7 => k_is); (case k8 => k_room); (case kV => kl_lit); (case kP => exact rfl); (case kG => exact fun _ => rfl); (case kB => exact fun _ => locs rfl); (case c5 => decide); (case c2 => exact rfl); (case c3 => exact rfl); (case c4 => exact rfl); k_whole; intro D' g' L' h' l1 FG' F' N' B' X' T'; (try k_lt l1); (try dsimp only); (try k_lift B'); (try k_fold)))
  k_steps
  refine hret x' d' _ _ _ _ _ _ _ _ _ _ _ (by assumption) (pick256 (by assumption)) (by assumption) (by assumption) ?_ ?_ rfl rfl rfl rfl
  · exact (by assumption : _ < _ ∧ _ < _ ∧ _ < _ ∧ _ < _ ∧ AllLt _ _).2.2.1
  · have e1 : (p * 256 + q) % 65536 / 256 = p := by omega
    have e2 : (p * 256 + q) % 65536 % 256 = q := by omega
    rw [e1, e2]
    show KBw.bInts (byteArr [x, y, z, u, p, q]) = _
    refine KBa.ints_make ?_
    intro k hk
    simp only [List.mem_cons, List.mem_nil_iff, or_false] at hk
    rcases hk with rfl | rfl | rfl | rfl | rfl | rfl
    · exact hin _ (by simp)
    · exact hin _ (by simp)
    · exact hin _ (by simp)
    · exact hin _ (by simp)
    · exact hp
    · exact hq
end Mine
end
section
open PySem PySem.W PyProof.Rows PySem.Calls
set_option Elab.async false
set_option maxRecDepth 100000
set_option maxHeartbeats 4000000
set_option pp.deepTerms false
set_option pp.maxSteps 3000
namespace Mine
theorem off_N13 : True := by
  w_top off
  exact True.intro
local macro_rules | `(tactic| k_room) => `(tactic| ktr_room)
local macro_rules | `(tactic| k_mem) => `(tactic| with_reducible first | assumption | (apply List.mem_cons_of_mem; first | assumption | (apply List.mem_cons_of_mem; first | assumption | (apply List.mem_cons_of_mem; first | assumption | (apply List.mem_cons_of_mem; first | assumption | (apply List.mem_cons_of_mem; assumption))))))
local macro_rules | `(tactic| walk_at "eval Name") => `(tactic| (k_here; name_kind "globalImplicit"; k_dflt (first | (refine' nameX_K ?F ?X ?T ?e ?_ ?a ?b; (case F => k_asm); (case X => k_asm); (case T => k_asm); (case a => rfl); (case b => kernel_rfl); (case e => k_is); k_whole) | (refine' nameX_B ?F ?X ?T ?e ?v ?n ?_ ?a ?b; (case F => k_asm); (case X => k_asm); (case T => k_asm); (case a => rfl); (case b => kernel_rfl); (case e => k_is); (case v => boot_fast); (case n => decide); k_whole))))
local macro_rules | `(tactic| walk_at "eval Name") => `(tactic| (k_here; name_kind "local"; k_dflt (refine' nameX_L ?F ?v ?_ ?a ?b; (case F => k_asm); (case a => rfl); (case b => kernel_rfl); (case v => rfl); k_whole)))
local macro_rules | `(tactic| walk_at "eval Name") => `(tactic| (k_here; (with_reducible show wpAny _ _ (eval (Expr.Name (PySem.Str.ofString "bytearray") _) _) _ _ _); k_dflt (refine' nameX_B ?F ?X ?T ?e ?v ?n ?_ ?a ?b; (case F => k_asm); (case X => k_asm); (case T => k_asm); (case a => rfl); (case b => kernel_rfl); (case e => k_is); (case v => boot_by_name); (case n => decide); k_whole)))
local macro_rules | `(tactic| walk_at "exec If") => `(tactic| refine wpAny_If ?_)
local macro_rules | `(tactic| walk_at "getAttr ref") => `(tactic| (k_here; k_dflt (refine' get_own ?k1 ?k2 ?k3 ?k4 ?k5 ?k6 ?k7 ?k8 ?k9 ?_; (case k1 => k_asm); (case k2 => k_asm); (case k3 => k_inst); (case k4 => k_is); (case k5 => k_is); (case k6 => k_is); (case k7 => k_is); (case k8 => k_get); (case k9 => k_handed); k_whole)))
local macro_rules | `(tactic| walk_at "subscriptTail Call") => `(tactic| (k_here; (with_reducible show wpAny _ _ (subscriptTail _ _ (Value.ref _) (Value.int _ _)) _ _ _); k_dflt (refine' item_tupleT ?t ?a ?b ?c ?d ?_; (case t => exact News.isTup (by k_asm) (by k_mem)); (case a => decide); (case b => decide); (case c => rfl); (case d => rfl); k_whole)))
local macro_rules | `(tactic| ktr_units) => `(tactic| (have hcL9 := cLine_is; (try simp only [units_under_make, units_in1, units_deeper, Around.mark_units, units_caller]); (try dsimp only [ktrTop]); omega))
local macro_rules | `(tactic| walk_at "call ref") => `(tactic| (k_here; k_dflt (refine ntoa_bytes _ _ _ _ _ _ _ (by first | exact first4 (by assumption) (by assumption) | assumption | with_unfolding_all assumption) _ _ _ _ _ _ _ _ _ _ _ _ _ _ _ _ _ (by k_asm) (by k_asm) (by k_asm) (by k_asm) (by k_asm) (by rfl) (by ktr_room) (by ktr_units) ?_); intro _ _ _ F' N'))
local macro_rules | `(tactic| walk_at "call builtin:_struct.unpack") => `(tactic| (k_here; refine unpack_H (by simp) (by k_asm) (by k_asm) (by first | exact last2 (by assumption) (by assumption) | assumption | with_unfolding_all assumption) ?_; intro D' t' h' k' F' N' l1; (try k_lt l1)))
local macro_rules | `(tactic| walk_at "call builtin:_struct.unpack") => `(tactic| (k_here; refine unpack_L (by k_asm) (by k_asm) (by first | assumption | with_unfolding_all assumption | exact KBa.ints_make (by assumption)) ?_; intro D' t' h' k' F' N' l1; (try k_lt l1)))
local macro_rules | `(tactic| walk_at "call builtin:_struct.pack") => `(tactic| (k_here; (rw [PyProof.Rows.bitAnd_m16]); refine pack_H (by omega) (by omega) ?_; intro _ _))
local macro_rules | `(tactic| walk_at "compareOp Eq bytes str") => `(tactic| (refine eq_bytes_str ?_))
local macro_rules | `(tactic| walk_at "compareOp Eq ref str") => `(tactic| (k_here; refine eq_tup_str (by k_asm) (by k_mem) (by ktr_units) ?_))
local macro_rules | `(tactic| walk_at "call type:bytes") => `(tactic| (k_here; refine call_bytes_by ?_))
theorem len6 {prog : Program} {w : World} {A : Around} {E : Value → Shared → Prop} {s : Shared} {b : Array UInt8} {x y z u p q : Int} {t : Tok} {Q : Value → Shared → Prop} (hk : KBw.bInts b = [x, y, z, u, p, q])
   (h : ∀ t' k, Q (.int 6 t') { s with toks := k }) : wpAny (model prog w) A (call (.builtin "len") [.bytes b t]) Q E s :=
  KBw.len_K hk (by simp) (h _ _)
local macro_rules | `(tactic| walk_at "call builtin:len") => `(tactic| (k_here; refine len6 (by assumption) ?_; intro _ _))
theorem truthy_long {prog : Program} {w : World} {A : Around} {E : Value → Shared → Prop} {s : Shared} {x : PySem.Str} {t : Tok} {Q : Bool → Shared → Prop} (hk : 1 ≤ x.length ∧ x.length ≤ 1000)
   (h : ∀ k, Q true { s with toks := k }) : wpAny (model prog w) A (truthy (.str x t)) Q E s := by
  refine PySem.P.truthy_str (by omega) ?_
  have e : ((x.length : Int) != 0) = true := by simp; omega
  rw [e]
  exact h _
local macro_rules | `(tactic| walk_at "truthy str") => `(tactic| (k_here; refine truthy_long (by assumption) ?_; intro _))
theorem addr_six {w : World} {mean : ExcName → Option Value} {mg mb : PySem.Str → Option Value} (news : List (Addr × Obj)) (b : Array UInt8) (x y z u p q : Int) (t : Tok) (hk : KBw.bInts b = [x, y, z, u, p, q]) :
    Claim w mean mg mb 160 news [.bytes b t] 8 (AddrPost news x y z u p q) := by
  intro dp un gd cn cs a ccd cl outer A₀ base h₀ L m s Q E B F X N T hkind hdp hun hret
  k_dflt (refine' call_cls ?k1 ?k2 ?k3 ?k4 ?k5 ?k6 ?_; (case k1 => k_asm); (case k2 => k_asm); (case k3 => k_asm); (case k4 => k_is); (case k5 => k_is); (case k6 => k_is); k_whole; intro x' d' h' F' N' l1 l2; (try k_lt l1); (try k_lt2 l2); (try k_sweep); (refine' kp_rest ?k1 ?k2 ?k3 ?k4 ?k5 ?kA ?kF ?kK ?k6 ?k7 ?k8 ?kV ?kP ?kG ?kB ?_ ?c2 ?c3 ?c4 ?c5; (case kA => exact rfl); (case kF => exact rfl); (case kK => assumption); (case k1 => k_asm); (case k2 => k_asm); (case k3 => k_asm); (case k4 => k_asm); (case k5 => k_asm); (case k6 => k_is); (case k7 => k_is); (case k8 => k_room); (case kV => kl_lit); (case kP => exact rfl); (case kG => exact fun _ => rfl); (case kB => exact fun _ => locs rfl); (case c5 => decide); (case c2 => exact rfl); (case c3 => exact rfl); (case c4 => exact rfl); k_whole; intro D' g' L' h' l1 FG' F' N' B' X' T'; (try k_lt l1); (try dsimp only); (try k_lift B'); (try k_fold)))
  k_steps
  refine hret x' d' _ _ _ _ _ _ _ _ _ _ _ (by assumption) (pick278 (by assumption)) (by assumption) (by assumption) ?_ hk rfl rfl rfl rfl
  exact (by assumption : _ < _ ∧ _ < _ ∧ _ < _ ∧ _ < _ ∧ _ < _ ∧ _ < _ ∧ AllLt _ _).2.2.2.2.1
end Mine
end
section
open PySem PySem.W PyProof.Rows PySem.Calls
open Sem (wp)
set_option Elab.async false
set_option maxRecDepth 100000
namespace Mine
section
variable {A₀ : Around} {base h₀ : Heap} {L a : Addr} {m : PySem.Str → Option Value} {cn : PySem.Str} {cs : Scope} {ccd : Value} {news : List (Addr × Obj)} {R : Result → Shared → Prop} {s : Shared}
theorem leftS0 {g : Heap} {oL : Obj} {v : Value} {s' : Shared} (F : Fr h₀ L s.heap m) (st : h₀.StaysIn g) (hLg : g.get? L = some oL)
    (hNs : ∀ (sl : Array (Option Value)) h', h'.get? L = some { oL with slots := sl } → Heap.Ns h' L m)
    (hl : LeaveS0 ([envOf cn cs L a ccd].filterMap (·.frame)) h₀ L m g R v s') : R (.ok (.ret v)) s' := by
  obtain ⟨g', L₁, m', news', T', F', N', k⟩ := hl
  have nL₀ : h₀.get? L = none := kts_self F
  obtain ⟨sl, hs⟩ := T'.up hLg
  have only : ∀ b, b ∈ ([envOf cn cs L a ccd].filterMap (·.frame)) → b = L := fun b hb => (kts_mem hb).elim id fun z => by simp at z
  refine k ⟨hNs sl _ (F'.keep _ _ hs), fun b o e => ?_, F.above⟩ fun p hp => ⟨(N' p hp).1, fun q => ?_, ?_⟩
  · refine F'.keep b o (T'.other b o (st b o e) fun q => ?_)
    rw [only b q, nL₀] at e; cases e
  · have z := (N' p hp).2.2
    rw [q, hs] at z; cases z
  · cases q : h₀.get? p.1 with
    | none => rfl
    | some o =>
      obtain ⟨sl', hs'⟩ := T'.up (st _ _ q)
      have z := (N' p hp).2.2
      rw [hs'] at z; cases z
end
section
variable {prog : Program} {w : World} {A₀ A : Around} {s : Shared} {base h₀ : Heap} {L a : Addr} {m : PySem.Str → Option Value} {cn : PySem.Str} {cs : Scope} {ccd : Value} {news : List (Addr × Obj)} {K : Frag} {p : Program} {loose : List PySem.Str} {mean : ExcName → Option Value} {mg mb : PySem.Str → Option Value}
    {R : Result → Shared → Prop} {name qual : PySem.Str} {params : Arguments} {body : List Stmt} {scope : Scope} {dV kV doc pm cdv ct oc : Value} {an od : Option Addr} {osl : Array (Option Value)} {f : Addr} {args : Args} {binds : List (PySem.Str × Value)}
theorem code_defS0C (B : Below A₀ base [] h₀) (F : Fr h₀ L s.heap m) (X₀ : K.In h₀) (N : News h₀ L s.heap news) (T : Top p loose mean mg mb h₀) (hA : A.frames = some [envOf cn cs L a ccd])
    (ho : K.lookup f = some ⟨oc, od, .func (fnOf name qual params body scope dV kV doc pm an cdv ct), osl⟩) (hcd : codeIn K cdv qual = true) (hroom : A.depth < recursionLimit)
    (hbind : BindsTo s (fnOf name qual params body scope dV kV doc pm an cdv ct) args binds) (hloc : ∀ y ∈ binds, scope.names.lookup y.1 = some .local)
    (h : ∀ g L' h₁, Fr h₀ L g m → Fr g L' h₁ (fun y => binds.reverse.lookup y) → News g L' h₁ news → Below A base [envOf cn cs L a ccd] g → K.In g → Top p loose mean mg mb g → KtsDicts ([envOf cn cs L a ccd].filterMap (·.frame)) g →
      wpC (model prog w) (A.deeper (envOf qual scope L' f cdv)) (execs body (envOf qual scope L' f cdv))
        (fun fl s' => LeaveS0 ([envOf cn cs L a ccd].filterMap (·.frame)) h₀ L m g R (match fl with | .ret v => v | _ => .none) s')
        (fun e s' => wpAny (model prog w) (A.deeper (envOf qual scope L' f cdv)) (leaving (envOf qual scope L' f cdv) e) (fun _ s'' => R (.error e) s'') (fun e' s'' => R (.error e') s'') s')
        { s with heap := h₁, toks := s.toks + binds.length })
    (hck : cs.kind = .function) (hco : scope.isCoroutine = false) (hgen : scope.isGenerator = false) (hk : scope.kind = .function)
    (hcell : ∀ x ∈ scope.names, x.2 ≠ .cell) : codeC (model prog w) A (.call (.ref f) args) R s := by
  have X := X₀.keeps F.keep
  refine codeC_call_def (fd := fnOf name qual params body scope dV kV doc pm an cdv ct) (body := body) (binds := binds) hroom (X _ _ ho) rfl (T.nolimit.keeps F.keep) (codeRec_of X hcd) rfl hbind hcell hloc (fun h₁ hns hk₁ => ?_) hco hgen hk
  obtain ⟨oL, es, ep, hLg, hLd, hN, hNs, st, B₂⟩ := kts_enter B F N hA hck
  have dicts : KtsDicts ([envOf cn cs L a ccd].filterMap (·.frame)) (hideAll s.heap (news.map (·.1))) := fun b hb => by
    rcases kts_mem hb with rfl | z
    · exact ⟨oL, es, ep, hLg, hLd⟩
    · simp at z
  refine wpC_mono (h _ s.heap.objs.size h₁ ⟨hN _ hLg, st, F.above⟩ ⟨hns, fun b o e => hk₁ b o (of_hideAll _ e), Nat.le_of_eq (hideAll_size _ _)⟩
    (fun p hp => ⟨hk₁ _ _ (N p hp).1, Nat.ne_of_lt (Heap.lt_size (N p hp).1), hideAll_none _ (List.mem_map_of_mem hp)⟩) B₂ (X₀.keeps st) (T.keeps st) dicts) (fun fl s' hl => leftS0 F st hLg hNs hl) fun _ _ y => y
end
end Mine
end
section
open PySem PySem.W PyProof.Rows PySem.Calls
open Sem (wp)
set_option Elab.async false
set_option maxRecDepth 100000
namespace Mine
section
variable {M : Model} {A : Around} {E : Value → Shared → Prop} {s : Shared} {env : Env}
theorem wpC_standIf {α : Type} {c : Prop} [Decidable c] {pos : Pos} {k : PUnit → Sem α} {Q : α → Shared → Prop} (h : wpC M A (k ()) Q E s) : wpC M A (if c then (standAt pos >>= k) else k ()) Q E s := by
  split
  · exact wpC_bindA (wpAny_standAt h)
  · exact h
theorem wpC_comp {e : Expr} {scope : Scope} {pos : Pos} {newAcc first : Sem Value} {g : Comprehension} {gs : List Comprehension} {cl : List (PySem.Str × Addr)} {Q : Value → Shared → Prop}
    (hcl : clausesOf e = g :: gs) (hs : ∀ x, foldedSetIterable g.iter env x = pure x) (hclos : closureFor scope env = pure cl)
    (hkind : scope.kind = .function) (hnames : ∀ x ∈ scope.names, x.2 = .local → scope.names.lookup x.1 = some .local)
    (h : wpAny M A first (fun x s₁ => wpAny M A (pyIter x) (fun it s₂ => wpAny M A newAcc (fun acc s₃ =>
      wpAny M A (newFunctionEnv scope env.globals cl [] env.qual none .none (some env)) (fun cenv s₄ =>
        codeC M A (.compStart e 0 it acc { cenv with scope := relabel scope env }) (fun r s' => match r with
          | .ok _ => False
          | .error x => ∃ m, s'.heap.Ns cenv.locals m ∧ ∀ h' m', Heap.SameBut cenv.locals s'.heap h' → h'.Ns cenv.locals m' →
             wpAny M A (passOn "comprehension.variables-let-go" x { cenv with scope := relabel scope env } : Sem Value) (fun _ _ => False) E { s' with heap := h' }) s₄) E s₃) E s₂) E s₁) E s) :
    wpC M A (comprehension e scope env pos newAcc false first none) Q E s := by
  unfold comprehension
  rw [hclos, hcl]
  refine wpC_bindA (wpAny_mono h (fun x s₁ h₁ => ?_) fun _ _ h' => h')
  refine wpC_bindA (wpAny_standAt ?_)
  refine wpC_bindA (wpAny_of_eq (hs x) ?_)
  refine wpC_bindA (wpAny_holding (wpAny_mono h₁ (fun it s₂ h₂ => ?_) fun _ _ h' => h'))
  refine wpC_standIf (wpC_bindA (wpAny_mono h₂ (fun acc s₃ h₃ => ?_) fun _ _ h' => h'))
  refine wpC_bind (wpC_pure ?_)
  refine wpC_bindA (wpAny_mono h₃ (fun cenv s₄ h₄ => ?_) fun _ _ h' => h')
  dsimp only
  have hv : ∀ x ∈ (scope.names.filter fun x => (x.2 == .local || x.2 == .cell) && x.1 != (".0" : PySem.Str)).reverse, x.2 = .local →
      Env.kindOf { cenv with scope := relabel scope env } x.1 = some .local := fun x hx hl => lookup_relabel_local (hnames x (List.mem_filter.mp (List.mem_reverse.mp hx)).1 hl)
  refine wpC_holding (wpC_bind (wpC_attempt (wpC_holding (wpC_run (h := none) (codeC_mono h₄ fun r s' hr => ?_)))))
  cases r with
  | ok f => exact hr.elim
  | error x =>
    obtain ⟨m, hn, hr⟩ := hr
    exact wpC_any (wpAny_bind (wpAny_holding (wpAny_comp_letGo (cenv := { cenv with scope := relabel scope env }) hkind _ s' m hv hn fun h' m' hn' hs' => wpAny_mono (hr h' m' hs' hn') (fun _ _ f => f.elim) fun _ _ y => y)))
end
section
variable {prog : Program} {w : World} {A : Around} {E : Value → Shared → Prop} {s : Shared} {R : Result → Shared → Prop} {env : Env}
theorem codeC_compStart {elt target iter ifs rest scope pos it acc}
    (h0 : codeC (model prog w) A (.compLoop (.ListComp elt (⟨target, iter, ifs, 0⟩ :: rest) scope pos) 0 it acc env) R s)
    (h : wpAny (model prog w) A (pyIter it) (fun it' s' => codeC (model prog w) A (.compLoop (.ListComp elt (⟨target, iter, ifs, 0⟩ :: rest) scope pos) 0 it' acc env) R s') (fun _ _ => False) s) :
    codeC (model prog w) A (.compStart (.ListComp elt (⟨target, iter, ifs, 0⟩ :: rest) scope pos) 0 it acc env) R s := by
  refine codeC_of_tree rfl ?_
  show wpC _ _ ((compStart (.ListComp elt (⟨target, iter, ifs, 0⟩ :: rest) scope pos) 0 it acc env).onRaise (fun x => do noteFrame x env; standAt theWindowsPlace)) _ _ s
  refine wpC_onRaise (wpC_any ?_)
  unfold compStart
  show wpAny _ _ (ask >>= _) _ _ s
  refine wpAny_bind (wpAny_askSetting (wpAny_ite ?_))
  split
  · first
      | exact wpAny_bind (wpAny_pure (wpAny_pure (And.intro rfl h0)))
      | exact wpAny_pure (And.intro rfl h0)
  · first
      | exact wpAny_bind (wpAny_rule (wpAny_bind (wpAny_standAt (wpAny_bind (wpAny_mono h (fun it' s' h' => wpAny_pure (And.intro rfl h')) fun _ _ x => x)))))
      | (refine wpAny_bind (wpAny_rule ?_); show wpAny _ _ (standAt iter.pos >>= _) _ _ s; exact wpAny_bind (wpAny_standAt (wpAny_bind (wpAny_mono h (fun it' s' h' => wpAny_pure (And.intro rfl h')) fun _ _ x => x))))
theorem codeC_compLoop {elt target iter : Expr} {scope : Scope} {pos : Pos} {it acc : Value} (I : Nat → Shared → Prop)
    (turn : ∀ n s, I n s → wpAny (model prog w) A (pyNext it) (fun r s₁ => match r with
      | none => False
      | some v => wpAny (model prog w) A (assign target env v) (fun _ s₂ => wpC (model prog w) A (eval elt env) (fun x s₃ =>
          wpAny (model prog w) A (call (.builtin "list.append") [acc, x]) (fun _ s₄ => ∃ m, m < n ∧ I m s₄) (fun _ _ => False) s₃)
          (fun e s₃ => wpAny (model prog w) A (noteFrame e env) (fun _ s₄ => R (.error e) s₄) (fun _ _ => False) s₃) s₂) (fun _ _ => False) s₁) (fun _ _ => False) s)
    (n : Nat) (h : I n s) (ht : ∀ v, letOwnedTupleGo target it v = pure () := by intro _; rfl) :
    codeC (model prog w) A (.compLoop (.ListComp elt [⟨target, iter, [], 0⟩] scope pos) 0 it acc env) R s := by
  refine codeC_loop rfl rfl I (fun n s hI => ?_) n s h
  show wpC _ A ((compTurn (.ListComp elt [⟨target, iter, [], 0⟩] scope pos) 0 it acc env).onRaise (fun x => do noteFrame x env; theTreesLotGoes x)) _ _ s
  refine wpC_onRaiseE ?_
  have fin : ∀ (e : Value) s₃, wpAny (model prog w) A (noteFrame e env) (fun _ s₄ => R (.error e) s₄) (fun _ _ => False) s₃ →
      wpC (model prog w) A (do noteFrame e env; theTreesLotGoes e) (fun _ s'' => R (.error e) s'') (fun e s'' => R (.error e) s'') s₃ := fun e s₃ h₃ =>
    wpC_any (wpAny_bind (wpAny_mono h₃ (fun _ s₄ h₄ => wpAny_theTreesLotGoes h₄) fun _ _ f => f.elim))
  rw [compTurn_list1]
  refine wpC_bindA (wpAny_standAt ?_)
  refine wpC_bindA (wpAny_mono (turn n s hI) (fun r s₁ h₁ => ?_) fun _ _ f => f.elim)
  cases r with
  | none => exact h₁.elim
  | some v =>
    refine wpC_bindA (wpAny_of_eq (ht v) ?_)
    refine wpC_bindA (wpAny_mono h₁ (fun _ s₂ h₂ => ?_) fun _ _ f => f.elim)
    refine wpC_bind (wpC_bind (wpC_mono h₂ (fun x s₃ h₃ => ?_) fun e s₃ h₃ => fin e s₃ h₃))
    exact wpC_any (wpAny_bind (wpAny_mono h₃ (fun _ s₄ h₄ => wpAny_pure (wpC_pure ⟨rfl, h₄⟩)) fun _ _ f => f.elim))
end
end Mine
end
section
open PySem PySem.W PyProof.Rows PySem.Calls
open Sem (wp)
set_option Elab.async false
set_option maxRecDepth 100000
namespace Mine
theorem funFrames_but {base h h' : Heap} {C : Addr} (hs : Heap.SameBut C h h') : ∀ {l : List Env}, h.FunFrames base l → (∀ env ∈ l, env.frame ≠ some C) → h'.FunFrames base l
  | [], _, _ => trivial
  | env :: _, ⟨hk, ⟨L, o, hf, hn, ho, hd⟩, hr⟩, hne => ⟨hk, ⟨L, o, hf, hn, hs.extBut _ _ (fun q => hne env (.head _) (q ▸ hf)) ho, hd⟩, funFrames_but hs hr fun e he => hne e (.tail _ he)⟩
def HeldC (base G : Heap) (l : List Env) (L e C : Addr) (cls : Value) (news : List (Addr × Obj)) (h : Heap) : Prop :=
  ∃ B a0, base.StaysIn B ∧ B.get? C = none ∧ (∀ b o, G.get? b = some o → b ∉ l.filterMap (·.frame) → B.get? b = some o) ∧ (∀ q ∈ news, B.get? q.1 = some q.2 ∧ G.get? q.1 = none ∧ base.get? q.1 = none) ∧ Heap.HeldW B l e cls a0 L h
section
variable {M : Model} {A A₀ : Around} {E : Value → Shared → Prop} {s : Shared} {base g h : Heap} {outer : List Env} {L ca e C : Addr} {m mC : PySem.Str → Option Value} {cn : PySem.Str} {cs : Scope} {cd : Value} {news : List (Addr × Obj)} {cenv : Env}
theorem note_first {cls : String} {Q : Unit → Shared → Prop} (K : Below A₀ base outer g) (hx : Heap.NewExc h s.heap e cls) (F : Fr g L h m) (N : News g L h news) (hk : cs.kind = .function)
    (hCh : h.Ns C mC) (hCg : g.get? C = none) (hCL : C ≠ L) (hCn : ∀ q ∈ news, q.1 ≠ C) (hfr : A.frames = some (envOf cn cs L ca cd :: outer)) (hcf : cenv.frame = some L)
    (hQ : ∀ h' G, Fr g L G m → G.get? C = none → HeldC base G (envOf cn cs L ca cd :: outer) L e C (.type cls) news h' → G.UpToSlots h' → h'.Ns C mC → Q () { s with heap := h' }) :
    wpAny M A (noteFrame (.ref e) cenv) Q E s := by
  have K' := K.push (name := cn) (scope := cs) (a := ca) (cd := cd) F hk
  have hout : ∀ b ∈ outer.filterMap (·.frame), ∃ o, g.get? b = some o := fun b hb => by
    obtain ⟨_, o, ho, _⟩ := K.frames.mem hb
    exact ⟨o, ho⟩
  have hCf : C ∉ (envOf cn cs L ca cd :: outer).filterMap (·.frame) := fun hm => by
    rcases kts_mem hm with z | z
    · exact hCL z
    · obtain ⟨o, ho⟩ := hout C z
      rw [hCg] at ho; cases ho
  let B := hideAll h (C :: (envOf cn cs L ca cd :: outer).filterMap (·.frame))
  let G := hideAll h (C :: news.map (·.1))
  have hin : ∀ env ∈ (envOf cn cs L ca cd :: outer), ∀ b, env.frame = some b → b ∈ C :: (envOf cn cs L ca cd :: outer).filterMap (·.frame) := fun env he b hb => List.mem_cons_of_mem _ (List.mem_filterMap.mpr ⟨env, he, hb⟩)
  have hBC : B.get? C = none := hideAll_none _ (List.mem_cons_self ..)
  have hGC : G.get? C = none := hideAll_none _ (List.mem_cons_self ..)
  have stB : base.StaysIn B := fun b o q => hideAll_get _ (K'.stays b o q) fun hm => by
    rcases List.mem_cons.mp hm with z | z
    · have := fresh_of_stays K.stays hCg
      rw [z, this] at q; cases q
    · rw [(K'.frames.mem z).1] at q; cases q
  have hGB : ∀ b o, G.get? b = some o → b ∉ (envOf cn cs L ca cd :: outer).filterMap (·.frame) → B.get? b = some o := fun b o q nm => hideAll_get _ (of_hideAll _ q) fun hm => by
    rcases List.mem_cons.mp hm with z | z
    · rw [z, hGC] at q; cases q
    · exact nm z
  have hl : ∀ q ∈ news, B.get? q.1 = some q.2 ∧ G.get? q.1 = none ∧ base.get? q.1 = none := fun q hq => by
    refine ⟨hideAll_get _ (N q hq).1 fun hm => ?_, hideAll_none _ (List.mem_cons_of_mem _ (List.mem_map_of_mem hq)), fresh_of_stays K.stays (N q hq).2.2⟩
    rcases List.mem_cons.mp hm with z | z
    · exact hCn q hq z
    · rcases kts_mem z with z | z
      · exact (N q hq).2.1 z
      · obtain ⟨o, ho⟩ := hout _ z
        rw [(N q hq).2.2] at ho; cases ho
  have FG : Fr g L G m := by
    obtain ⟨oL, es, ep, hL, hLd, hLk, hLf⟩ := F.ns
    refine ⟨⟨oL, es, ep, hideAll_get _ hL fun hm => ?_, hLd, hLk, hLf⟩, fun b o q => hideAll_get _ (F.keep b o q) fun hm => ?_, F.above⟩
    · rcases List.mem_cons.mp hm with z | z
      · exact hCL z.symm
      · obtain ⟨p, hp, e⟩ := List.mem_map.mp z
        exact (N p hp).2.1 e
    · rcases List.mem_cons.mp hm with z | z
      · rw [z, hCg] at q; cases q
      · obtain ⟨p, hp, e⟩ := List.mem_map.mp z
        rw [← e, (N p hp).2.2] at q; cases q
  obtain ⟨ob, tp, he, hcls, hd⟩ := hx.there
  have hen : B.get? e = none := by
    cases q : B.get? e with
    | none => rfl
    | some o => have := of_hideAll _ q; rw [hx.new] at this; cases this
  have hff : s.heap.FunFrames B (envOf cn cs L ca cd :: outer) := (funFrames_hide K'.frames hin).of_keeps fun b o hb _ => ⟨o, hx.keeps b o hb, rfl⟩
  have hcf' : cenv.frame = (envOf cn cs L ca cd).frame := hcf
  have hfo : PySem.frameOf cenv = PySem.frameOf (envOf cn cs L ca cd) := by unfold PySem.frameOf; rw [hcf']
  unfold noteFrame
  simp only [hcf, hfo]
  refine wpAny_bind (wpAny_field he hd rfl ?_)
  rw [if_neg (by simp)]
  refine wpAny_entryW (a0 := tp) hfr hff rfl he (fun b o hb => hx.keeps b o (of_hideAll _ hb)) hen hd (by simp) (by simp) fun h' hL => ?_
  obtain ⟨k1, k2, k3, k4⟩ := hL
  have up : h.UpToSlots h' := (Heap.UpToSlots.of_keeps hx.keeps).trans k4
  refine hQ h' G FG hGC ⟨B, tp, stB, hBC, hGB, hl, k1, hen, k2, hcls ▸ k3⟩ ?_ (up.ns hCh)
  exact fun b o hb hn => up b o (of_hideAll _ hb) hn
theorem heldC_but {G h' : Heap} {l : List Env} {cls : Value} (H : HeldC base G l L e C cls news h) (hn : h.Ns C mC) (hs : Heap.SameBut C h h') (hl : ∀ env ∈ l, env.frame ≠ some C) : HeldC base G l L e C cls news h' := by
  obtain ⟨B, a0, h1, h2, h3, h4, k1, k2, k3, oe, vs, T, oT, ts, a1, a2, a3, a4, a5, a6, a7, a8, a9⟩ := H
  obtain ⟨oC, es, ep, hC, hCd, _⟩ := hn
  have neC : ∀ b o xs, h.get? b = some o → o.data = .fields xs → b ≠ C := fun b o xs hb hd z => by
    rw [z, hC] at hb; cases hb; rw [hCd] at hd; cases hd
  exact ⟨B, a0, h1, h2, h3, h4, fun b o q => hs.extBut b o (fun z => by rw [z, h2] at q; cases q) (k1 b o q), k2, funFrames_but hs k3 hl, oe, vs, T, oT, ts,
    hs.extBut _ _ (neC _ _ _ a1 a3) a1, a2, a3, a4, a5, a6, hs.extBut _ _ (neC _ _ _ a7 a8) a7, a8, a9⟩
theorem pass_held {G : Heap} {l : List Env} {cls : Value} {α : Type} {what : String} {Q : α → Shared → Prop} (H : HeldC base G l L e C cls news s.heap) (hcf : cenv.frame = some L)
    (hE : ∀ h', RaisedHN base G l L e cls news h' → s.heap.UpToSlots h' → E (.ref e) { s with heap := h' }) : wpAny M A (PySem.passOn what (.ref e) cenv : Sem α) Q E s := by
  obtain ⟨B, a0, h1, h2, h3, h4, k1, k2, k3, oe, vs, T, oT, ts, he, hcls, hd, v1, hnT, hTe, hT, hdT, v3⟩ := H
  have hsz3 : 3 < ts.size := (Array.getElem?_eq_some_iff.mp v3).1
  have other : ∀ b, b ≠ T → (s.heap.update T (Obj.mapFields (·.setIfInBounds 3 ((some L : Option Addr).elim Value.none fun f => rawInt f)))).get? b = s.heap.get? b :=
    fun b hb => Heap.get?_update_other _ _ (Ne.symm hb)
  have noRecord : ∀ b o, s.heap.get? b = some o → (∀ vs, o.data ≠ .fields vs) → b ≠ T := fun b o hb hnf q => by
    rw [q, hT] at hb; injection hb with hb; subst hb; exact hnf ts hdT
  unfold PySem.passOn
  refine wpAny_bind (wpAny_field he hd v1 ?_)
  rw [if_neg (show ¬ ((Value.ref T == Value.none) = true) from by simp)]
  have fin : wpAny M A (setFlight (.ref e) cenv.frame) (fun _ s' => wpAny M A (throw (.ref e) : Sem α) Q E s') E s := by
    rw [hcf]
    unfold setFlight
    refine wpAny_bind (wpAny_field he hd v1 ?_)
    rw [if_pos (show (Value.ref T != Value.none) = true from by simp)]
    refine wpAny_setField hT hdT hsz3 (wpAny_throw (hE _ ⟨B, a0, h1, h3, h4, fun b o q => (other b fun z => by rw [z, hnT] at q; cases q).trans (k1 b o q), k2,
      k3.of_keeps fun b o hb hnf => ⟨o, (other b (noRecord b o hb hnf)).trans hb, rfl⟩, oe, vs, T, _, _, (other e (Ne.symm hTe)).trans he, hcls, hd, v1, hnT, hTe,
      Heap.get?_update_self _ hT (Obj.isFreed_of_fields (Obj.data_mapFields hdT _)), Obj.data_mapFields hdT _, by simp [hsz3]⟩ fun b o hb hn => ⟨o.slots, (other b (noRecord b o hb hn)).trans hb⟩))
  first
    | exact wpAny_bind fin
    | exact wpAny_bind (wpAny_pure (wpAny_bind fin))
end
end Mine
end
section
open PySem PySem.W PyProof.Rows PySem.Calls
open Sem (wp)
set_option Elab.async false
set_option maxRecDepth 100000
namespace Mine
section
variable {prog : Program} {w : World} {A₀ : Around} {E : Value → Shared → Prop} {s : Shared} {base g : Heap} {outer : List Env} {L ca : Addr} {m : PySem.Str → Option Value} {cn : PySem.Str} {cs : Scope} {cd : Value}
abbrev GoodElt (prog : Program) (w : World) (A : Around) (env : Env) (g : Heap) (L : Addr) (m : PySem.Str → Option Value) (elt : Expr) (x : PySem.Str) (scope : Scope) (cl : List (PySem.Str × Addr)) (news : List (Addr × Obj)) (v : Value) : Prop :=
  ∀ C oC m₂ s₃ (E' : Value → Shared → Prop), LCg.NsObj oC m₂ → m₂ x = some v → Fr g L s₃.heap m → News g L s₃.heap ((C, oC) :: news) →
    wpAny (model prog w) A (eval elt (compEnvC scope cl C env)) (fun _ s₄ => ∃ tk, s₄ = { s₃ with toks := tk }) E' s₃
abbrev BadElt (prog : Program) (w : World) (A : Around) (env : Env) (g : Heap) (L : Addr) (m : PySem.Str → Option Value) (elt : Expr) (x : PySem.Str) (scope : Scope) (cl : List (PySem.Str × Addr)) (news : List (Addr × Obj)) (cls : String) (v : Value) : Prop :=
  ∀ C oC m₂ s₃, LCg.NsObj oC m₂ → m₂ x = some v → Fr g L s₃.heap m → News g L s₃.heap ((C, oC) :: news) →
    wpC (model prog w) A (eval elt (compEnvC scope cl C env)) (fun _ _ => False) (fun e s₄ => ∃ a h' tk, e = .ref a ∧ s₄ = { s₃ with heap := h', toks := tk } ∧ Heap.NewExc s₃.heap h' a cls) s₃
def BadPost (prog : Program) (w : World) (A : Around) (env : Env) (g base : Heap) (l₀ : List Env) (L : Addr) (m : PySem.Str → Option Value) (elt : Expr) (x : PySem.Str) (scope : Scope) (cl : List (PySem.Str × Addr)) (cls : String) (E : Value → Shared → Prop) (xv : Value) (s₁ : Shared) : Prop :=
  ∃ (l : Addr) (vs : List Value) (n : Nat) (news : List (Addr × Obj)) (k : Nat) (v : Value), xv = .ref l ∧ (l, listOf vs.toArray n) ∈ news ∧ Fr g L s₁.heap m ∧ News g L s₁.heap news ∧ vs.length ≤ 1000 ∧
       vs[k]? = some v ∧ (∀ i v, i < k → vs[i]? = some v → GoodElt prog w A env g L m elt x scope cl news v) ∧
       BadElt prog w A env g L m elt x scope cl news cls v ∧
       ∀ G a h' tk, Fr g L G m → RaisedHN base G l₀ L a (.type cls) news h' → G.UpToSlots h' → E (.ref a) { s₁ with heap := h', toks := tk }
theorem comp_bad {elt iter : Expr} {x : PySem.Str} {px : Pos} {scope : Scope} {cl : List (PySem.Str × Addr)} {pos : Pos} {cls : String} {Q : Value → Shared → Prop}
    (K : Below A₀ base outer g) (_F : Fr g L s.heap m) (hk : cs.kind = .function)
    (hclos : closureFor scope (envOf cn cs L ca cd) = pure cl) (hcell : ∀ y ∈ scope.names, y.2 ≠ .cell) (hkind : scope.kind = .function)
    (hnames : ∀ y ∈ scope.names, y.2 = .local → scope.names.lookup y.1 = some .local) (hx : scope.names.lookup x = some .local)
    (h : wpAny (model prog w) (A₀.deeper (envOf cn cs L ca cd)) (eval iter (envOf cn cs L ca cd)) (BadPost prog w (A₀.deeper (envOf cn cs L ca cd)) (envOf cn cs L ca cd) g base (envOf cn cs L ca cd :: outer) L m elt x scope cl cls E) E s)
    (hs : ∀ x, foldedSetIterable iter (envOf cn cs L ca cd) x = pure x := by intro _; rfl) :
    wpC (model prog w) (A₀.deeper (envOf cn cs L ca cd)) (eval (.ListComp elt [⟨.Name x px, iter, [], 0⟩] scope pos) (envOf cn cs L ca cd)) Q E s := by
  rw [eval_ListComp]
  refine wpC_comp rfl hs hclos hkind hnames (wpAny_mono h (fun xv s₁ h₁ => ?_) fun _ _ e => e)
  obtain ⟨l, vs, n, news, k, v, rfl, hlm, F, N, hsz, hvk, good, bad, hE⟩ := h₁
  have hl0 := (N _ hlm).1
  have hlI : s₁.heap.IsList l vs.toArray := ⟨_, hl0, rfl, _, rfl⟩
  refine wpAny_pyIter_list hlI ?_
  refine wpAny_newObj_type (wpAny_newFunctionEnv hcell (by intro y hy; simp at hy) (fun h₁ hns₁ hsb₁ => ?_) hkind)
  dsimp only at hns₁ hsb₁ ⊢
  generalize hH1 : s₁.heap.push { cls := .type "list_iterator", data := .fields #[.ref l, .int 0 0] } = H1 at hns₁ hsb₁ ⊢
  generalize hH2 : H1.push { cls := .type "list", dict := none, data := .seq ([] : List Value).toArray } = H2 at hns₁ hsb₁ ⊢
  have z1 : H1.objs.size = s₁.heap.objs.size + 1 := by rw [← hH1, Heap.size_push]
  have z2 : H2.objs.size = s₁.heap.objs.size + 1 + 1 := by rw [← hH2, Heap.size_push, z1]
  have hI2 : H2.get? s₁.heap.objs.size = some { cls := .type "list_iterator", data := .fields #[.ref l, .int 0 0] } := by
    rw [← hH2]; refine Heap.get?_push_of_some _ ?_; rw [← hH1]; exact Heap.get?_push_size _ rfl
  have hD2 : H2.get? H1.objs.size = some { cls := .type "list", dict := none, data := .seq ([] : List Value).toArray } := by
    rw [← hH2]; exact Heap.get?_push_size _ rfl
  have old2 : ∀ b o, s₁.heap.get? b = some o → H2.get? b = some o := fun b o e => by
    rw [← hH2]; refine Heap.get?_push_of_some _ ?_; rw [← hH1]; exact Heap.get?_push_of_some _ e
  have eIC : s₁.heap.objs.size ≠ H2.objs.size := by omega
  have eDC : H1.objs.size ≠ H2.objs.size := by omega
  have eID : s₁.heap.objs.size ≠ H1.objs.size := by omega
  have up : ∀ b o, H2.get? b = some o → h₁.get? b = some o := fun b o e => hsb₁.extBut b o (Nat.ne_of_lt (Heap.lt_size e)) (Heap.get?_push_of_some _ e)
  have old : ∀ b o, s₁.heap.get? b = some o → h₁.get? b = some o := fun b o e => up b o (old2 b o e)
  have hlt : ∀ b o, s₁.heap.get? b = some o → b < s₁.heap.objs.size := fun b o e => Heap.lt_size e
  have fresh : ∀ a, s₁.heap.objs.size ≤ a → g.get? a = none := fun a ha => by
    cases e : g.get? a with
    | none => rfl
    | some o' => exact absurd (Heap.lt_size (F.keep a o' e)) (Nat.not_lt.mpr ha)
  have hLlt : L < s₁.heap.objs.size := F.ns.lt
  have hllt : l < s₁.heap.objs.size := hlt _ _ hl0
  have h12 : s₁.heap.objs.size < H2.objs.size := by omega
  have h11 : s₁.heap.objs.size < H1.objs.size := by omega
  have hkl : k < vs.length := (List.getElem?_eq_some_iff.mp hvk).1
  have hCn : ∀ q ∈ news, q.1 ≠ H2.objs.size := fun q hq => Nat.ne_of_lt (Nat.lt_trans (hlt _ _ (N q hq).1) h12)
  have hCg : g.get? H2.objs.size = none := fresh _ (by omega)
  have hCL : H2.objs.size ≠ L := Ne.symm (Nat.ne_of_lt (Nat.lt_trans hLlt h12))
  have hCf : ∀ env ∈ (envOf cn cs L ca cd :: outer), env.frame ≠ some H2.objs.size := fun env he hf => by
    rcases List.mem_cons.mp he with rfl | he
    · exact hCL (Option.some.inj hf).symm
    · obtain ⟨o, ho, _⟩ := (K.frames.mem (List.mem_filterMap.mpr ⟨env, he, hf⟩)).2
      rw [hCg] at ho; cases ho
  let RR : Result → Shared → Prop := fun r s' => match r with
          | .ok _ => False
          | .error x => ∃ m, s'.heap.Ns H2.objs.size m ∧ ∀ h' m', Heap.SameBut H2.objs.size s'.heap h' → h'.Ns H2.objs.size m' →
             wpAny (model prog w) (A₀.deeper (envOf cn cs L ca cd)) (PySem.passOn "comprehension.variables-let-go" x (compEnvC scope cl H2.objs.size (envOf cn cs L ca cd)) : Sem Value) (fun _ _ => False) E { s' with heap := h' }
  have loop : ∀ s₃ : Shared, s₃ = { s₁ with heap := h₁, toks := s₁.toks + ([] : List (PySem.Str × Value)).length } →
      codeC (model prog w) (A₀.deeper (envOf cn cs L ca cd)) (.compLoop (.ListComp elt [⟨.Name x px, iter, [], 0⟩] scope pos) 0 (.ref s₁.heap.objs.size) (.ref H1.objs.size) (compEnvC scope cl H2.objs.size (envOf cn cs L ca cd))) RR s₃ := by
    rintro s₃ rfl
    refine codeC_compLoop (fun j s' => ∃ h' tk i ys m', s' = { s₁ with heap := h', toks := tk } ∧ i ≤ k ∧ j = k - i ∧ ys.length = i ∧ h'.IsListIter s₁.heap.objs.size l i ∧ h'.IsList H1.objs.size ys.toArray ∧ Fr g L h' m ∧ h'.Ns H2.objs.size m' ∧ News g L h' news) ?_ k
      ⟨h₁, _, 0, [], _, rfl, Nat.zero_le _, rfl, rfl, ⟨_, up _ _ hI2, rfl, rfl⟩, ⟨_, up _ _ hD2, rfl, _, rfl⟩, F.keeps old, hns₁, N.grown old⟩
    rintro j s' ⟨h', tk, i, ys, m', rfl, hi, rfl, hyl, hit, hacc, F', hn', N'⟩
    obtain ⟨vi, hvi⟩ : ∃ vi, vs[i]? = some vi := by
      have hkl : k < vs.length := (List.getElem?_eq_some_iff.mp hvk).1
      exact ⟨vs[i]'(by omega), List.getElem?_eq_getElem (by omega)⟩
    have hl' : h'.IsList l vs.toArray := ⟨_, (N' _ hlm).1, rfl, _, rfl⟩
    refine wpAny_pyNext_list_item (x := vi) hit hl' (by simpa using hvi) fun h₂ hit₂ hs₂ => ?_
    have k2 : ∀ b o, b ≠ s₁.heap.objs.size → h'.get? b = some o → h₂.get? b = some o := fun b o hb e => hs₂.extBut b o hb e
    refine wpAny_assign_Name (wpAny_storeName_local (lookup_relabel_local hx) (hn'.at' fun o e => k2 _ o (Ne.symm eIC) e) (fun h₃ hn₃ hs₃ => ?_) (by simp [compEnvC, relabel, hkind]))
    have k3 : ∀ b o, b ≠ s₁.heap.objs.size → b ≠ H2.objs.size → h'.get? b = some o → h₃.get? b = some o := fun b o hb hc e => hs₃.extBut b o hc (k2 b o hb e)
    have F₃ : Fr g L h₃ m := ⟨F'.ns.at' fun o e => k3 _ o (Nat.ne_of_lt hLlt) (Ne.symm hCL) e, fun b o e => k3 b o (fun q => by rw [q, fresh _ (Nat.le_refl _)] at e; cases e) (fun q => by rw [q, hCg] at e; cases e) (F'.keep b o e), F'.above⟩
    have N₃ : News g L h₃ news := fun q hq => by
      have hq1 : q.1 < s₁.heap.objs.size := hlt _ _ (N q hq).1
      exact ⟨k3 _ _ (Nat.ne_of_lt hq1) (hCn q hq) (N' q hq).1, (N' q hq).2⟩
    obtain ⟨oC, heC, hoC⟩ := LCg.ns_obj hn₃
    have NC : News g L h₃ ((H2.objs.size, oC) :: news) := fun q hq => by
      rcases List.mem_cons.mp hq with rfl | hq
      · exact ⟨heC, hCL, hCg⟩
      · exact N₃ q hq
    rcases Nat.lt_or_eq_of_le hi with hik | rfl
    · refine wpC_any (wpAny_mono (good i vi hik hvi _ oC _ _ _ hoC (by simp) F₃ NC) (fun y s₄ h₄ => ?_) fun _ _ e => e)
      obtain ⟨tk₄, rfl⟩ := h₄
      have hit₃ : h₃.IsListIter s₁.heap.objs.size l (i + 1) := hit₂.extBut hs₃.extBut eIC
      have hacc₃ : h₃.IsList H1.objs.size ys.toArray := let ⟨o, ho, r⟩ := hacc; ⟨o, k3 _ _ (Ne.symm eID) eDC ho, r⟩
      refine wpAny_list_append hacc₃ (fun h₅ hacc₅ hs₅ => ?_) (by simp [sizeLine_eq]; omega)
      have k5 : ∀ b o, b ≠ H1.objs.size → h₃.get? b = some o → h₅.get? b = some o := fun b o hb e => hs₅.extBut b o hb e
      refine ⟨k - (i + 1), by omega, h₅, _, i + 1, ys ++ [y], _, rfl, hik, rfl, by simp [hyl], hit₃.extBut hs₅.extBut eID, ?_, ?_, hn₃.at' fun o e => k5 _ o (Ne.symm eDC) e, ?_⟩
      · rw [show (ys ++ [y]).toArray = ys.toArray.push y by simp]; exact hacc₅
      · exact ⟨F₃.ns.at' fun o e => k5 _ o (Nat.ne_of_lt (Nat.lt_trans hLlt h11)) e, fun b o e => k5 b o (fun q => by rw [q, fresh _ (by omega)] at e; cases e) (F₃.keep b o e), F₃.above⟩
      · exact fun q hq => ⟨k5 _ _ (Nat.ne_of_lt (Nat.lt_trans (hlt _ _ (N q hq).1) h11)) (N₃ q hq).1, (N₃ q hq).2⟩
    · obtain rfl : v = vi := Option.some.inj (hvk.symm.trans hvi)
      refine wpC_mono (bad _ oC _ _ hoC (by simp) F₃ NC) (fun _ _ f => f.elim) fun e s₄ h₄ => ?_
      obtain ⟨a, h₄, tk₄, rfl, rfl, hx₄⟩ := h₄
      refine note_first (C := H2.objs.size) K hx₄ F₃ N₃ hk hn₃ hCg hCL hCn (Around.frames_deeper K.stack) rfl fun h₅ G FG hGC H5 hup hn5 => ?_
      refine ⟨_, hn5, fun h₆ m₆ hs₆ hn₆ => ?_⟩
      refine pass_held (heldC_but H5 hn5 hs₆ hCf) rfl fun h₇ H7 up7 => ?_
      refine hE G a h₇ _ FG H7 ?_
      have up6 : G.UpToSlots h₆ := fun b o hb hnf => by
        obtain ⟨sl, q⟩ := hup b o hb hnf
        exact ⟨sl, hs₆.extBut _ _ (fun z => by rw [z, hGC] at hb; cases hb) q⟩
      exact up6.trans up7
  refine codeC_compStart (loop _ rfl) ?_
  have hit₁ : h₁.IsListIter s₁.heap.objs.size l 0 := ⟨_, up _ _ hI2, rfl, rfl⟩
  exact wpAny_pyIter_listiter hit₁ (loop _ rfl)
end
end Mine
end
section
open PySem PySem.W PyProof.Rows PySem.Calls
set_option Elab.async false
set_option maxRecDepth 100000
namespace Mine
abbrev ClaimC (w : World) (mean : ExcName → Option Value) (mg mb : PySem.Str → Option Value) (f : Addr) (news : List (Addr × Obj)) (vs : List Value)
    (k : Nat) (post : Heap → List Env → Heap → Addr → (PySem.Str → Option Value) → Shared → (Value → Shared → Prop) → (Value → Shared → Prop) → Prop) : Prop :=
  ∀ (dp un : Nat) (gd : Option (List Code)) (cn : PySem.Str) (cs : Scope) (a : Addr) (ccd : Value) (outer : List Env) (A₀ : Around) (base h₀ : Heap) (L : Addr) (m : PySem.Str → Option Value) (s : Shared) (Q E : Value → Shared → Prop),
    Below A₀ base outer h₀ → Fr h₀ L s.heap m → (hd.heap_39 w.params).In h₀ → News h₀ L s.heap news → Top hd.view_39 (looseW hd.view_39 LS) mean mg mb h₀ → cs.kind = .function →
    dp + k < recursionLimit → un + 40 * k < cLine → post base (envOf cn cs L a ccd :: outer) h₀ L m s Q E →
      wpC (model PR w) (ktrTop dp un gd cn cs L a ccd [] outer) (call (.ref f) vs) Q E s
abbrev RaisesC (cls : String) (news : List (Addr × Obj)) (base : Heap) (l : List Env) (h₀ : Heap) (L : Addr) (m : PySem.Str → Option Value) (s : Shared) (_Q E : Value → Shared → Prop) : Prop :=
  ∀ (G : Heap) (e : Addr) (h' : Heap) (tk : Nat), Fr h₀ L G m → RaisedSN base G l e (.type cls) news h' → G.UpToSlots h' → E (.ref e) { s with heap := h', toks := tk }
structure BadInt (x : PySem.Str) : Prop where
  short : (numSeenOf x).length ≤ 640
  inv : (int_private% "readNumeral") 0 10 (numSeenOf x) = int_private% "Numeral.invalid"
  rep : (reprText x).length ≤ sizeLine
  msg : (PySem.Str.ofString (toString "invalid literal for int() with base " ++ toString 10 ++ toString ": ") ++ ({ cps := (reprText x).cps.extract 0 200 } : PySem.Str)).length ≤ sizeLine
theorem bad_x : BadInt (PySem.Str.ofString "x") := ⟨by decide +kernel, by kernel_rfl, by rw [sizeLine_eq]; decide +kernel, by rw [sizeLine_eq]; decide +kernel⟩
theorem bad_e : BadInt (PySem.Str.ofString "") := ⟨by decide +kernel, by kernel_rfl, by rw [sizeLine_eq]; decide +kernel, by rw [sizeLine_eq]; decide +kernel⟩
def GoodInt (x : PySem.Str) : Prop := x.length ≤ 640 ∧ ∃ n, PySem.intText? x = some n
end Mine
end
section
open PySem PySem.W PyProof.Rows PySem.Calls
set_option Elab.async false
set_option maxRecDepth 100000
set_option maxHeartbeats 4000000
set_option pp.deepTerms false
set_option pp.maxSteps 3000
namespace Mine
theorem off_NB : True := by
  w_top off
  exact True.intro
local macro_rules | `(tactic| walk_at "eval Name") => `(tactic| (k_here; (fail_if_success (with_reducible show wpAny _ _ (eval (Expr.Name _ _) (compEnvC _ _ _ _)) _ _ _)); name_kind "globalImplicit"; k_dflt (first | (refine' nameX_K ?F ?X ?T ?e ?_ ?a ?b; (case F => k_asm); (case X => k_asm); (case T => k_asm); (case a => rfl); (case b => kernel_rfl); (case e => k_is); k_whole) | (refine' nameX_B ?F ?X ?T ?e ?v ?n ?_ ?a ?b; (case F => k_asm); (case X => k_asm); (case T => k_asm); (case a => rfl); (case b => kernel_rfl); (case e => k_is); (case v => boot_fast); (case n => decide); k_whole))))
local macro_rules | `(tactic| walk_at "eval Name") => `(tactic| (k_here; (fail_if_success (with_reducible show wpAny _ _ (eval (Expr.Name _ _) (compEnvC _ _ _ _)) _ _ _)); name_kind "local"; k_dflt (refine' nameX_L ?F ?v ?_ ?a ?b; (case F => k_asm); (case a => rfl); (case b => kernel_rfl); (case v => rfl); k_whole)))
local macro_rules | `(tactic| walk_at "eval Name") => `(tactic| (k_here; (with_reducible show wpAny _ _ (eval (Expr.Name (PySem.Str.ofString "bytearray") _) _) _ _ _); k_dflt (refine' nameX_B ?F ?X ?T ?e ?v ?n ?_ ?a ?b; (case F => k_asm); (case X => k_asm); (case T => k_asm); (case a => rfl); (case b => kernel_rfl); (case e => k_is); (case v => boot_by_name); (case n => decide); k_whole)))
local macro_rules | `(tactic| walk_at "eval Name") => `(tactic| (k_here; (with_reducible show wpAny _ _ (eval (Expr.Name _ _) (compEnvC _ _ _ _)) _ _ _); k_dflt (first | refine LCgL.ld_own (by k_asm) (by k_mem) (by assumption) (by assumption) ?_ | refine LCgL.ld_built (by k_asm) (by k_asm) (by k_asm) (by k_is) (by boot_by_name) (by decide) ?_)))
local macro_rules | `(tactic| walk_at "call builtin:str.split") => `(tactic| (k_here; (refine KSpl.split1 (by k_asm) (by k_asm) (by decide) ?_ (Nat.le_trans (by assumption) (by decide))); intro D' l' h' k' e' a' F' N' l1; rw [(by assumption : Txt.split _ _ = _)] at e'; kspl_open e'; (simp only [strValues, List.map_cons, List.map_nil] at N' a')))
local macro_rules | `(tactic| walk_at "call type:int") => `(tactic| (k_here; refine KIN.call_text (by with_reducible assumption) (by assumption) ?_))
theorem raised_drop {base G h : Heap} {l : List Env} {e : Addr} {cls : Value} {d : Addr × Obj} {news : List (Addr × Obj)} (R : RaisedSN base G l e cls (d :: news) h) : RaisedSN base G l e cls news h :=
  let ⟨B, a0, h1, h2, h3, h4⟩ := R; ⟨B, a0, h1, h2, fun q hq => h3 q (List.mem_cons_of_mem _ hq), h4⟩
theorem strs_at {x y z u v : PySem.Str} {t1 t2 t3 t4 : Tok} : ∀ {k : Nat}, [x, y, z, u][k]? = some v → ∃ tv, [Value.str x t1, .str y t2, .str z t3, .str u t4][k]? = some (.str v tv)
  | 0, h => ⟨t1, by cases h; rfl⟩
  | 1, h => ⟨t2, by cases h; rfl⟩
  | 2, h => ⟨t3, by cases h; rfl⟩
  | 3, h => ⟨t4, by cases h; rfl⟩
  | _ + 4, h => by cases h
theorem strs_is {x y z u : PySem.Str} {t1 t2 t3 t4 : Tok} {a : Value} : ∀ {k : Nat}, [Value.str x t1, .str y t2, .str z t3, .str u t4][k]? = some a → ∃ v tv, a = .str v tv ∧ [x, y, z, u][k]? = some v
  | 0, h => ⟨x, t1, by cases h; rfl, rfl⟩
  | 1, h => ⟨y, t2, by cases h; rfl, rfl⟩
  | 2, h => ⟨z, t3, by cases h; rfl, rfl⟩
  | 3, h => ⟨u, t4, by cases h; rfl, rfl⟩
  | _ + 4, h => by cases h
theorem aton_bad {w : World} {mean : ExcName → Option Value} {mg mb : PySem.Str → Option Value} (news : List (Addr × Obj)) (txt : PySem.Str) (t : Tok) (x y z u : PySem.Str) (k : Nat) (v : PySem.Str)
   (hx : PySem.Txt.split txt (PySem.Str.ofString ".") = [x, y, z, u]) (hlen : txt.length + 2 ≤ 10000) (hk : [x, y, z, u][k]? = some v) (good : ∀ i v, i < k → [x, y, z, u][i]? = some v → GoodInt v) (bad : BadInt v) :
    ClaimC w mean mg mb 57 news [.str txt t] 2 (RaisesC "ValueError" news) := by
  intro dp un gd cn cs a ccd outer A₀ base h₀ L m s Q E B F X N T hkind hdp hun hret
  refine wpC_call ?_
  k_dflt (refine' code_defX ?k1 ?k2 ?k3 ?k4 ?k5 ?kA ?kF ?kK ?k6 ?k7 ?k8 ?k9 ?kB ?_ ?c2 ?c3 ?c4 ?c5; (case kA => exact rfl); (case kF => exact rfl); (case kK => assumption); (case k1 => k_asm); (case k2 => k_asm); (case k3 => k_asm); (case k4 => k_asm); (case k5 => k_asm); (case k6 => k_is); (case k7 => k_is); (case k8 => ktr_room); (case k9 => exact BindsTo.of_eq rfl); (case c5 => decide); (case kB => exact locs rfl); (case c2 => exact rfl); (case c3 => exact rfl); (case c4 => exact rfl); k_whole; intro g' L' h' FG' F' N' B' X' T' st' fr'; (try dsimp only))
  k_dflt (refine wpC_cons (wpC_Return (wpC_evalCall1 rfl ?_)))
  walk1
  k_dflt (refine comp_bad (cls := "ValueError") B' (by k_asm) rfl (by rfl) (by decide) (by rfl) (by decide) (by rfl) ?_)
  k_steps
  obtain ⟨tv, hv⟩ := strs_at (t1 := _) (t2 := _) (t3 := _) (t4 := _) hk
  refine ⟨_, [.str x _, .str y _, .str z _, .str u _], 0, _, k, _, rfl, List.mem_cons_self .., by k_asm, by k_asm, by simp, hv, ?_, ?_, ?_⟩
  · intro i vi hi hvi C oC m₂ s₃ E' hC hx F N
    obtain ⟨v', tv', rfl, hv'⟩ := strs_is hvi
    obtain ⟨gl, n, gn⟩ := good i v' hi hv'
    k_steps
  · intro C oC m₂ s₃ hC hx F N
    k_dflt (refine wpC_evalCall1 rfl ?_)
    walk1
    refine wpC_any ?_
    walk1
    exact ⟨⟨.machine, Looks.of_pure rfl, .inr rfl⟩, int_typecall_bad rfl bad.short bad.inv bad.rep bad.msg fun h' tk e hx => ⟨e, h', tk, rfl, rfl, hx⟩⟩
  · intro G a h' tk FG R up
    exact leave_heldSN R FG up fun h'' R2 _ up2 => hret g' a _ _ FG' (raised_drop R2) up2
end Mine
end
section
open PySem PySem.W PyProof.Rows PySem.Calls
set_option Elab.async false
set_option maxRecDepth 100000
set_option maxHeartbeats 4000000
set_option pp.deepTerms false
set_option pp.maxSteps 3000
namespace Mine
theorem off_NR : True := by
  w_top off
  exact True.intro
local macro_rules | `(tactic| walk_at "eval Name") => `(tactic| (k_here; name_kind "globalImplicit"; k_dflt (first | (refine' nameX_K ?F ?X ?T ?e ?_ ?a ?b; (case F => k_asm); (case X => k_asm); (case T => k_asm); (case a => rfl); (case b => kernel_rfl); (case e => k_is); k_whole) | (refine' nameX_B ?F ?X ?T ?e ?v ?n ?_ ?a ?b; (case F => k_asm); (case X => k_asm); (case T => k_asm); (case a => rfl); (case b => kernel_rfl); (case e => k_is); (case v => boot_fast); (case n => decide); k_whole))))
local macro_rules | `(tactic| walk_at "eval Name") => `(tactic| (k_here; name_kind "local"; k_dflt (refine' nameX_L ?F ?v ?_ ?a ?b; (case F => k_asm); (case a => rfl); (case b => kernel_rfl); (case v => rfl); k_whole)))
local macro_rules | `(tactic| walk_at "eval Name") => `(tactic| (k_here; (with_reducible show wpAny _ _ (eval (Expr.Name (PySem.Str.ofString "bytearray") _) _) _ _ _); k_dflt (refine' nameX_B ?F ?X ?T ?e ?v ?n ?_ ?a ?b; (case F => k_asm); (case X => k_asm); (case T => k_asm); (case a => rfl); (case b => kernel_rfl); (case e => k_is); (case v => boot_by_name); (case n => decide); k_whole)))
theorem keep_f {K : Frag} {M : Model} {h : Heap} {f : Value} (hk : keepIn K f = true) (X : K.In h) : ∃ k, Looks M h (keeperOf f) k ∧ (k = Keeper.frame ∨ k = Keeper.machine) :=
  let ⟨k, a, b⟩ := looks_keep (M := M) hk X; ⟨k, b, a⟩
abbrev Law1 (w : World) (mean : ExcName → Option Value) (mg mb : PySem.Str → Option Value) (f : Addr) (news : List (Addr × Obj)) (vs : List Value)
    (k : Nat) (post : Heap → Addr → (PySem.Str → Option Value) → Shared → (Value → Shared → Prop) → Prop) : Prop :=
  ∀ (dp un : Nat) (gd : Option (List Code)) (cn : PySem.Str) (cs : Scope) (a : Addr) (ccd : Value) (A₀ : Around) (base h₀ : Heap) (L : Addr) (m : PySem.Str → Option Value) (s : Shared) (Q E : Value → Shared → Prop),
    Below A₀ base [] h₀ → Fr h₀ L s.heap m → (hd.heap_39 w.params).In h₀ → News h₀ L s.heap news → Top hd.view_39 (looseW hd.view_39 LS) mean mg mb h₀ → (hd.heap_39 w.params).In base → Top hd.view_39 (looseW hd.view_39 LS) mean mg mb base → cs.kind = .function →
    dp + k < recursionLimit → un + 40 * k < cLine → post h₀ L m s Q →
      wpC (model PR w) (ktrTop dp un gd cn cs L a ccd [] []) (call (.ref f) vs) Q E s
theorem read_refused {w : World} {mean : ExcName → Option Value} {mg mb : PySem.Str → Option Value} (news : List (Addr × Obj)) (txt : PySem.Str) (t : Tok)
   (hat : ∀ t, ClaimC w mean mg mb 57 news [.str txt t] 2 (RaisesC "ValueError" news)) :
    Law1 w mean mg mb 207 news [.str txt t] 4 (Gives1 news fun _ => .bool true) := by
  intro dp un gd cn cs a ccd A₀ base h₀ L m s Q E B F X N T XB TB hkind hdp hun hret
  refine wpC_call ?_
  k_dflt (refine' code_defS0C ?k1 ?k2 ?k3 ?k4 ?k5 ?kA ?k6 ?k7 ?k8 ?k9 ?kB ?_ ?cK ?c2 ?c3 ?c4 ?c5; (case kA => exact rfl); (case k2 => k_asm); (case k1 => k_asm); (case k3 => k_asm); (case k4 => k_asm); (case k5 => k_asm); (case k6 => k_is); (case k7 => k_is); (case k8 => ktr_room); (case k9 => exact BindsTo.of_eq rfl); (case kB => exact locs rfl); (case cK => assumption); (case c2 => exact rfl); (case c3 => exact rfl); (case c4 => exact rfl); (case c5 => decide); k_whole; intro g' L' h' FG' F' N' B' X' T' D'; (try dsimp only))
  k_dflt (refine wpC_cons (wpC_Try (wpC_cons (wpC_ExprS (wpC_evalCall1 rfl ?_) rfl rfl))))
  walk1
  refine wpC_any ?_
  walk1
  refine ⟨keep_f (K := hd.heap_39 w.params) (by k_is) (by k_in), ?_⟩
  refine hat _ _ _ _ _ _ _ _ _ _ base g' L' _ _ _ _ (by k_asm) (by k_asm) (by k_asm) (by k_asm) (by k_asm) (by rfl) (by ktr_room) (by ktr_units) ?_
  intro G e h₅ tk FG R up
  kts_caughtN
  k_steps
  exact hret 0 _ _ (by assumption) (by assumption)
end Mine
end
section
open PySem PySem.W PyProof.Rows PySem.Calls
open Sem (wp)
set_option Elab.async false
set_option maxRecDepth 100000
namespace Mine
section
variable {prog : Program} {w : World} {A : Around} {E : Value → Shared → Prop} {s : Shared}
theorem bad_loop {R : Result → Shared → Prop} {l I S : Addr} {vs : List Value} {ns : List Int} {m : Nat} {bad : Int} (hh : A.handled = none) (hi : IntsAre vs ns) (hm : ns[m]? = some bad) (hr : ∀ i n, i < m → ns[i]? = some n → 0 ≤ n ∧ n < 256) (hbad : bad < 0 ∨ 256 ≤ bad) (hz : ns.length ≤ sizeLine) (hIS : I ≠ S) (hlI : l ≠ I) (hlS : l ≠ S) {h₀ : Heap} (hI₀ : h₀.get? I = none) (hS₀ : h₀.get? S = none)
    (hR : ∀ (s' : Shared) h' tk e, Heap.NewExc h₀ h' e "ValueError" → s' = { s with heap := h', toks := tk } → R (.error (.ref e)) s') :
    ∀ (k i : Nat) (s₁ : Shared), m - i = k → i ≤ m → (∃ h tk, s₁ = { s with heap := h, toks := tk }) → (∀ b o, h₀.get? b = some o → s₁.heap.get? b = some o) → h₀.objs.size ≤ s₁.heap.objs.size → s₁.heap.IsList l vs.toArray → s₁.heap.IsListIter I l i → s₁.heap.get? S = some { cls := .type "bytearray", data := .bytearray (byteArr (ns.take i)) } →
      codeAny (model prog w) A (.builtin "bytes.__new__.loop" ⟨[.type "bytes", .ref I, .ref S], []⟩) R s₁ := by
  have hlen : vs.length = ns.length := hi.length
  have hml : m < ns.length := (List.getElem?_eq_some_iff.mp hm).1
  intro k
  induction k with
  | zero =>
    intro i s₁ hk hle hs₁ keep hsz hl hit hS
    obtain ⟨h, tk, rfl⟩ := hs₁
    obtain rfl : i = m := by omega
    obtain ⟨x, hx⟩ : ∃ x, vs[i]? = some x := ⟨vs[i]'(by omega), List.getElem?_eq_getElem (by omega)⟩
    obtain ⟨n, t, rfl, hn⟩ := IntsAre.at hi i x hx
    obtain rfl : n = bad := Option.some.inj (hn.symm.trans hm)
    refine codeAny_builtin F.bm_entry_loop ?_
    rw [Around.under_plainId F.bm_plain_loop _]
    show wpAny _ A.in1 (pyNext (.ref I) >>= _) _ _ _
    refine wpAny_bind (wpAny_pyNext_list_item (x := .int n t) hit hl (by simpa using hx) fun h' hit' hs => ?_)
    refine wpAny_bind (wpAny_holding (wpAny_of_eq (rfl : asIndex (.int n t) = pure n) ?_))
    refine wpAny_bind (wpAny_letGo ?_)
    refine bm_if_true (by simp only [Bool.or_eq_true, decide_eq_true_eq]; omega) ?_
    refine wpAny_bind (wpAny_rule ?_)
    have fin : ∀ {α : Type} {Q : α → Shared → Prop}, wpAny (model prog w) A.in1 (raiseErrorWords "ValueError" "bytes must be in range(0, 256)" : Sem α) Q (fun e s' => R (.error e) s') { s with heap := h', toks := tk } := fun {α Q} =>
      wpAny_raiseErrorWords plainExc_ValueError hh fun h'' tk'' e he => by
        have old : ∀ b o, h₀.get? b = some o → h'.get? b = some o := fun b o q => hs.extBut b o (fun z => by rw [z, hI₀] at q; cases q) (keep b o q)
        have new : h₀.get? e = none := by
          cases q : h₀.get? e with
          | none => rfl
          | some o =>
            have z := old e o q
            rw [he.new] at z
            cases z
        exact hR _ h'' tk'' e ⟨fun b o q => he.keeps b o (old b o q), new, he.there⟩ rfl
    first
      | exact fin
      | exact wpAny_bind fin
  | succ k ih =>
    intro i s₁ hk hle hs₁ keep hsz hl hit hS
    obtain ⟨h, tk, rfl⟩ := hs₁
    have hlt : i < m := by omega
    obtain ⟨x, hx⟩ : ∃ x, vs[i]? = some x := ⟨vs[i]'(by omega), List.getElem?_eq_getElem (by omega)⟩
    obtain ⟨n, t, rfl, hn⟩ := IntsAre.at hi i x hx
    obtain ⟨h0, h1⟩ := hr i n hlt hn
    refine codeAny_builtin F.bm_entry_loop ?_
    rw [Around.under_plainId F.bm_plain_loop _]
    show wpAny _ A.in1 (pyNext (.ref I) >>= _) _ _ _
    refine wpAny_bind (wpAny_pyNext_list_item (x := .int n t) hit hl (by simpa using hx) fun h' hit' hs => ?_)
    have hS' : h'.get? S = some { cls := .type "bytearray", data := .bytearray (byteArr (ns.take i)) } := (hs.2 S (Ne.symm hIS)).trans hS
    refine wpAny_bind (wpAny_holding (wpAny_of_eq (rfl : asIndex (.int n t) = pure n) ?_))
    refine wpAny_bind (wpAny_letGo ?_)
    refine bm_if_false (by simp only [Bool.or_eq_false_iff, decide_eq_false_iff_not]; omega) ?_
    refine wpAny_bind ?_
    show wpAny _ _ (updateBytearray S (·.push n.toNat.toUInt8)) _ _ _
    unfold updateBytearray
    refine wpAny_bind (wpAny_load hS' ?_)
    show wpAny _ _ (update S (Obj.mapBytearray (·.push n.toNat.toUInt8)) >>= fun _ => lookBehind S) _ _ _
    refine wpAny_bind (wpAny_update hS' ?_)
    have hS₂ : (h'.update S (Obj.mapBytearray (·.push n.toNat.toUInt8))).get? S = some { cls := .type "bytearray", data := .bytearray (byteArr (ns.take (i + 1))) } := by
      rw [byteArr_take hn]
      exact Heap.get?_update_self (Obj.mapBytearray (·.push n.toNat.toUInt8)) hS' rfl
    refine wpAny_lookBehind hS₂ ?_ ?_
    · show (if (byteArr (ns.take (i + 1))).size > sizeLine then some "bytearray:memory" else none) = none
      rw [if_neg]
      rw [byteArr_size, List.length_take]
      omega
    · refine wpAny_pure ⟨plainId_quiet F.bm_plain_loop _, ih (i + 1) { s with heap := h'.update S (Obj.mapBytearray (·.push n.toNat.toUInt8)), toks := tk } (by omega) hlt ⟨_, _, rfl⟩ (fun b o q => ?_) ?_ ?_ ?_ hS₂⟩
      · exact (Heap.get?_update_other _ _ (fun z => by rw [← z, hS₀] at q; cases q)).trans (hs.extBut b o (fun z => by rw [z, hI₀] at q; cases q) (keep b o q))
      · show h₀.objs.size ≤ (h'.update S _).objs.size
        rw [(Heap.SameBut.update ..).1, hs.1]; exact hsz
      · exact (hl.extBut hs.extBut hlI).extBut (Heap.SameBut.update ..).extBut hlS
      · exact hit'.extBut (Heap.SameBut.update ..).extBut hIS
theorem new_bad {l : Addr} {vs : List Value} {ns : List Int} {m : Nat} {bad : Int} {Q : Value → Shared → Prop} (hh : A.handled = none) (hl : s.heap.IsList l vs.toArray) (hi : IntsAre vs ns) (hm : ns[m]? = some bad) (hr : ∀ i n, i < m → ns[i]? = some n → 0 ≤ n ∧ n < 256) (hbad : bad < 0 ∨ 256 ≤ bad) (hz : ns.length ≤ sizeLine)
    (hE : ∀ h' tk e, Heap.NewExc s.heap h' e "ValueError" → E (.ref e) { s with heap := h', toks := tk }) :
    codeAny (model prog w) A (.call (.builtin "bytes.__new__") ⟨[.type "bytes", .ref l], []⟩) (wants Q E) s := by
  refine codeAny_of_tree ?_
  show wpAny _ A.in1 (do checkBuiltinCall "bytes.__new__" ⟨[.type "bytes", .ref l], []⟩; again (.builtin "bytes.__new__" ⟨[.type "bytes", .ref l], []⟩)) _ _ s
  refine wpAny_bind (wpAny_of_eq (F.bm_newCall _) (wpAny_pure ⟨plainId_quiet F.bm_plain _, codeAny_builtin F.bm_entry ?_⟩))
  rw [Around.under_plainId F.bm_plain _]
  have hT : s.TypeIs (.ref l) "list" := hl.typeIs
  obtain ⟨ol, hol, hoc, nl, hod⟩ := id hl
  unfold Builtin.«bytes.__new__»
  refine wpAny_bind (wpAny_of_eq (a := true) rfl ?_)
  refine bm_if_false rfl ?_
  refine wpAny_bind (wpAny_of_eq F.bm_sub ?_)
  refine bm_if_false rfl ?_
  refine wpAny_bind (wpAny_of_eq (F.bm_bind _) ?_)
  refine wpAny_bind (wpAny_of_eq (a := ()) rfl ?_)
  refine wpAny_bind (wpAny_of_eq (a := ()) rfl ?_)
  refine bm_if_false rfl ?_
  refine wpAny_bind (wpAny_specialOf hT F.bm_no_bytes ?_)
  refine wpAny_bind (wpAny_bind ?_)
  show wpAny _ _ (load l >>= _) _ _ _
  refine wpAny_bind (wpAny_load hol ?_)
  rw [hod]
  refine wpAny_pure (wpAny_pure ?_)
  refine bm_if_false rfl ?_
  refine wpAny_bind (wpAny_specialOf hT F.bm_no_index ?_)
  refine bm_if_true rfl ?_
  first
    | show wpAny _ _ (Builtin.Bytes.buffer? "bytes.__new__" (.ref l) true >>= _) _ _ _
    | (refine wpAny_bind ?_; show wpAny _ _ (Builtin.Bytes.buffer? "bytes.__new__" (.ref l) true >>= _) _ _ _)
  refine wpAny_bind ?_
  unfold Builtin.Bytes.buffer?
  refine wpAny_bind (wpAny_specialOf hT F.bm_no_buffer ?_)
  refine wpAny_bind (wpAny_specialOf hT F.bm_no_buffer ?_)
  refine wpAny_pure ?_
  refine wpAny_bind (wpAny_tryCatch (wpAny_pyIter_list hl ?_))
  have hl₁ : (s.heap.push { cls := .type "list_iterator", data := .fields #[.ref l, .int 0 0] }).IsList l vs.toArray := hl.push _
  have hT₁ : ({ s with heap := s.heap.push { cls := .type "list_iterator", data := .fields #[.ref l, .int 0 0] } } : Shared).TypeIs (.ref l) "list" := Heap.IsList.typeIs (s := { s with heap := s.heap.push { cls := .type "list_iterator", data := .fields #[.ref l, .int 0 0] } }) hl₁
  refine wpAny_bind (wpAny_holding ?_)
  unfold Builtin.Bytes.lengthHint
  refine wpAny_bind (wpAny_specialOf hT₁ slot_list_len.lookup ?_)
  dsimp only
  rw [F.bm_split]
  dsimp only
  refine wpAny_bind (wpAny_isInstance hT₁ F.bm_sub_list ?_)
  refine bm_if_false rfl ?_
  refine bm_if_true (by decide +kernel) ?_
  refine wpAny_pure ?_
  refine wpAny_bind ?_
  unfold Builtin.Bytes.newBytearray
  refine wpAny_newObj_type ?_ (Nat.zero_le _)
  have hsz : (s.heap.push { cls := .type "list_iterator", data := .fields #[.ref l, .int 0 0] }).objs.size = s.heap.objs.size + 1 := Heap.size_push _ _
  have hlt : l < s.heap.objs.size := Heap.lt_size hol
  have hI : ((s.heap.push { cls := .type "list_iterator", data := .fields #[.ref l, .int 0 0] }).push { cls := .type "bytearray", data := .bytearray #[] }).IsListIter s.heap.objs.size l 0 :=
    ⟨_, Heap.get?_push_of_some _ (Heap.get?_push_size _ rfl), rfl, rfl⟩
  have fresh : ∀ a, s.heap.objs.size ≤ a → s.heap.get? a = none := fun a ha => by
    cases e : s.heap.get? a with
    | none => rfl
    | some o' => exact absurd (Heap.lt_size e) (Nat.not_lt.mpr ha)
  have main := bad_loop (prog := prog) (w := w) (A := A) (R := wants Q E) (s := s) (l := l) (I := s.heap.objs.size) (S := (s.heap.push { cls := .type "list_iterator", data := .fields #[.ref l, .int 0 0] }).objs.size) (h₀ := s.heap) hh hi hm hr hbad hz (by rw [hsz]; exact Nat.ne_of_lt (Nat.lt_succ_self _)) (Nat.ne_of_lt hlt) (by rw [hsz]; exact Nat.ne_of_lt (Nat.lt_succ_of_lt hlt))
    (fresh _ (Nat.le_refl _)) (fresh _ (by rw [hsz]; exact Nat.le_succ _)) (fun s' h' tk e he hs' => hs' ▸ hE h' tk e he)
    m 0 { s with heap := (s.heap.push { cls := .type "list_iterator", data := .fields #[.ref l, .int 0 0] }).push { cls := .type "bytearray", data := .bytearray #[] } } rfl (Nat.zero_le _) ⟨_, _, rfl⟩ (fun b o q => Heap.get?_push_of_some _ (Heap.get?_push_of_some _ q)) (by rw [Heap.size_push, hsz]; omega) (hl₁.push _) hI (Heap.get?_push_size _ rfl)
  first
    | exact wpAny_pure ⟨plainId_quiet F.bm_plain_loop _, main⟩
    | exact wpAny_pure (wpAny_pure ⟨plainId_quiet F.bm_plain_loop _, main⟩)
end
end Mine
namespace Mine
section
variable {prog : Program} {w : World} {A : Around} {E : Value → Shared → Prop} {s : Shared}
theorem call_bytes_bad {l : Addr} {vs : List Value} {ns : List Int} {m : Nat} {bad : Int} {Q : Value → Shared → Prop} (hh : A.handled = none) (hl : s.heap.IsList l vs.toArray) (hi : IntsAre vs ns) (hm : ns[m]? = some bad) (hr : ∀ i n, i < m → ns[i]? = some n → 0 ≤ n ∧ n < 256) (hbad : bad < 0 ∨ 256 ≤ bad) (hz : ns.length ≤ sizeLine)
    (hE : ∀ h' tk e, Heap.NewExc s.heap h' e "ValueError" → E (.ref e) { s with heap := h', toks := tk }) : wpAny (model prog w) A (call (.type "bytes") [.ref l]) Q E s :=
  callType_codes (Q₁ := fun _ _ => False) F.bm_called (F.bm_typeCall _) F.entry_object_init (new_bad hh hl hi hm hr hbad hz hE) fun _ _ h => h.elim
end
end Mine
end
section
open PySem PySem.W PyProof.Rows PySem.Calls
set_option Elab.async false
set_option maxRecDepth 100000
set_option maxHeartbeats 4000000
set_option pp.deepTerms false
set_option pp.maxSteps 3000
namespace Mine
theorem off_NW : True := by
  w_top off
  exact True.intro
local macro_rules | `(tactic| walk_at "eval Name") => `(tactic| (k_here; (fail_if_success (with_reducible show wpAny _ _ (eval (Expr.Name _ _) (compEnvC _ _ _ _)) _ _ _)); name_kind "globalImplicit"; k_dflt (first | (refine' nameX_K ?F ?X ?T ?e ?_ ?a ?b; (case F => k_asm); (case X => k_asm); (case T => k_asm); (case a => rfl); (case b => kernel_rfl); (case e => k_is); k_whole) | (refine' nameX_B ?F ?X ?T ?e ?v ?n ?_ ?a ?b; (case F => k_asm); (case X => k_asm); (case T => k_asm); (case a => rfl); (case b => kernel_rfl); (case e => k_is); (case v => boot_fast); (case n => decide); k_whole))))
local macro_rules | `(tactic| walk_at "eval Name") => `(tactic| (k_here; (fail_if_success (with_reducible show wpAny _ _ (eval (Expr.Name _ _) (compEnvC _ _ _ _)) _ _ _)); name_kind "local"; k_dflt (refine' nameX_L ?F ?v ?_ ?a ?b; (case F => k_asm); (case a => rfl); (case b => kernel_rfl); (case v => rfl); k_whole)))
local macro_rules | `(tactic| walk_at "eval Name") => `(tactic| (k_here; (with_reducible show wpAny _ _ (eval (Expr.Name (PySem.Str.ofString "bytearray") _) _) _ _ _); k_dflt (refine' nameX_B ?F ?X ?T ?e ?v ?n ?_ ?a ?b; (case F => k_asm); (case X => k_asm); (case T => k_asm); (case a => rfl); (case b => kernel_rfl); (case e => k_is); (case v => boot_by_name); (case n => decide); k_whole)))
local macro_rules | `(tactic| walk_at "eval Name") => `(tactic| (k_here; (with_reducible show wpAny _ _ (eval (Expr.Name _ _) (compEnvC _ _ _ _)) _ _ _); k_dflt (first | refine LCgL.ld_own (by k_asm) (by k_mem) (by assumption) (by assumption) ?_ | refine LCgL.ld_built (by k_asm) (by k_asm) (by k_asm) (by k_is) (by boot_by_name) (by decide) ?_)))
local macro_rules | `(tactic| walk_at "CompEnd") => `(tactic| (refine LCg.CompEnd.intro (by assumption) (by assumption) _ (fun _ hp => hp) (by assumption) (by first | exact True.intro | assumption | exact Or.inl (by assumption) | exact Or.inr ⟨_, by k_mem, rfl, _, rfl⟩) ?_))
local macro_rules | `(tactic| walk_at "call builtin:str.split") => `(tactic| (k_here; (refine KSpl.split1 (by k_asm) (by k_asm) (by decide) ?_ (Nat.le_trans (by assumption) (by decide))); intro D' l' h' k' e' a' F' N' l1; rw [(by assumption : Txt.split _ _ = _)] at e'; kspl_open e'; (simp only [strValues, List.map_cons, List.map_nil] at N' a')))
local macro_rules | `(tactic| walk_at "call type:int") => `(tactic| (k_here; refine KIN.call_text (by with_reducible assumption) (by assumption) ?_))
local macro_rules | `(tactic| walk_at "call type:bytes") => `(tactic| fail)
theorem aton_range {w : World} {mean : ExcName → Option Value} {mg mb : PySem.Str → Option Value} (news : List (Addr × Obj)) (txt : PySem.Str) (t : Tok) (x y z u : PySem.Str) (a b c d : Int) (k : Nat) (v : Int)
   (hx : PySem.Txt.split txt (PySem.Str.ofString ".") = [x, y, z, u]) (hlen : txt.length + 2 ≤ 10000) (ha : PySem.intText? x = some a) (hb : PySem.intText? y = some b) (hc : PySem.intText? z = some c) (hd' : PySem.intText? u = some d)
   (la : x.length ≤ 640) (lb : y.length ≤ 640) (lc : z.length ≤ 640) (ld : u.length ≤ 640) (hk : [a, b, c, d][k]? = some v) (good : ∀ i n, i < k → [a, b, c, d][i]? = some n → 0 ≤ n ∧ n < 256) (bad : v < 0 ∨ 256 ≤ v) :
    ClaimC w mean mg mb 57 news [.str txt t] 2 (RaisesC "ValueError" news) := by
  intro dp un gd cn cs a ccd outer A₀ base h₀ L m s Q E B F X N T hkind hdp hun hret
  refine wpC_call ?_
  k_dflt (refine' code_defX ?k1 ?k2 ?k3 ?k4 ?k5 ?kA ?kF ?kK ?k6 ?k7 ?k8 ?k9 ?kB ?_ ?c2 ?c3 ?c4 ?c5; (case kA => exact rfl); (case kF => exact rfl); (case kK => assumption); (case k1 => k_asm); (case k2 => k_asm); (case k3 => k_asm); (case k4 => k_asm); (case k5 => k_asm); (case k6 => k_is); (case k7 => k_is); (case k8 => ktr_room); (case k9 => exact BindsTo.of_eq rfl); (case c5 => decide); (case kB => exact locs rfl); (case c2 => exact rfl); (case c3 => exact rfl); (case c4 => exact rfl); k_whole; intro g' L' h' FG' F' N' B' X' T' st' fr'; (try dsimp only))
  k_dflt (refine wpC_cons (wpC_Return ?_))
  refine wpC_stop ?_
  k_steps
  refine call_bytes_bad rfl (News.isList (by k_asm) (by k_mem)) (.cons _ _ (.cons _ _ (.cons _ _ (.cons _ _ .nil)))) hk good bad (by rw [sizeLine_eq]; simp) ?_
  intro h₅ tk e hx₅
  exact leave_newS B' hx₅ (by assumption) (by assumption) fun h'' R2 _ up2 => hret g' e _ _ FG' (raised_drop (raised_drop R2)) up2
end Mine
end
section
open PySem PySem.W PyProof.Rows PySem.Calls
set_option Elab.async false
set_option maxRecDepth 100000
set_option maxHeartbeats 4000000
set_option pp.deepTerms false
set_option pp.maxSteps 3000
namespace Mine
theorem off_NP : True := by
  w_top off
  exact True.intro
local macro_rules | `(tactic| walk_at "eval Name") => `(tactic| (k_here; name_kind "globalImplicit"; k_dflt (first | (refine' nameX_K ?F ?X ?T ?e ?_ ?a ?b; (case F => k_asm); (case X => k_asm); (case T => k_asm); (case a => rfl); (case b => kernel_rfl); (case e => k_is); k_whole) | (refine' nameX_B ?F ?X ?T ?e ?v ?n ?_ ?a ?b; (case F => k_asm); (case X => k_asm); (case T => k_asm); (case a => rfl); (case b => kernel_rfl); (case e => k_is); (case v => boot_fast); (case n => decide); k_whole))))
local macro_rules | `(tactic| walk_at "eval Name") => `(tactic| (k_here; name_kind "local"; k_dflt (refine' nameX_L ?F ?v ?_ ?a ?b; (case F => k_asm); (case a => rfl); (case b => kernel_rfl); (case v => rfl); k_whole)))
local macro_rules | `(tactic| walk_at "eval Name") => `(tactic| (k_here; (with_reducible show wpAny _ _ (eval (Expr.Name (PySem.Str.ofString "bytearray") _) _) _ _ _); k_dflt (refine' nameX_B ?F ?X ?T ?e ?v ?n ?_ ?a ?b; (case F => k_asm); (case X => k_asm); (case T => k_asm); (case a => rfl); (case b => kernel_rfl); (case e => k_is); (case v => boot_by_name); (case n => decide); k_whole)))
theorem pack_bad {w : World} {mean : ExcName → Option Value} {mg mb : PySem.Str → Option Value} (news : List (Addr × Obj)) (txt : PySem.Str) (t t2 : Tok) (D : Addr) (n : Int) (hD : (D, tupO [.str txt t, .int n t2]) ∈ news)
   (hat : ∀ t, ClaimC w mean mg mb 57 news [.str txt t] 2 (RaisesC "ValueError" news)) :
    ClaimC w mean mg mb 171 news [.ref D] 4 (RaisesC "ValueError" news) := by
  intro dp un gd cn cs a ccd outer A₀ base h₀ L m s Q E B F X N T hkind hdp hun hret
  refine wpC_call ?_
  k_dflt (refine' code_defX ?k1 ?k2 ?k3 ?k4 ?k5 ?kA ?kF ?kK ?k6 ?k7 ?k8 ?k9 ?kB ?_ ?c2 ?c3 ?c4 ?c5; (case kA => exact rfl); (case kF => exact rfl); (case kK => assumption); (case k1 => k_asm); (case k2 => k_asm); (case k3 => k_asm); (case k4 => k_asm); (case k5 => k_asm); (case k6 => k_is); (case k7 => k_is); (case k8 => ktr_room); (case k9 => exact BindsTo.of_eq rfl); (case c5 => decide); (case kB => exact locs rfl); (case c2 => exact rfl); (case c3 => exact rfl); (case c4 => exact rfl); k_whole; intro g' L' h' FG' F' N' B' X' T' st' fr'; (try dsimp only))
  k_dflt (refine wpC_consA ?_)
  k_steps
  dsimp only
  k_dflt (refine wpC_cons (wpC_Return (wpC_BinL (wpC_evalCall1 rfl ?_))))
  walk1
  refine wpC_any ?_
  walk1
  refine ⟨keep_f (K := hd.heap_39 w.params) (by k_is) (by k_in), ?_⟩
  refine hat _ _ _ _ _ _ _ _ _ _ base g' L' _ _ _ _ (by k_asm) (by k_asm) (by k_asm) (by k_asm) (by k_asm) (by rfl) (by ktr_room) (by ktr_units) ?_
  intro G e h₅ tk FG R up
  exact leave_onSN B' FG R up fun h'' R2 _ up2 => hret g' e _ _ FG' R2 up2
end Mine
end
section
open PySem PySem.W PyProof.Rows PySem.Calls
set_option Elab.async false
set_option maxRecDepth 100000
set_option maxHeartbeats 4000000
set_option pp.deepTerms false
set_option pp.maxSteps 3000
namespace Mine
theorem off_NQ : True := by
  w_top off
  exact True.intro
local macro_rules | `(tactic| walk_at "no such step") => `(tactic| fail)
local macro_rules | `(tactic| walk_at "eval Name") => `(tactic| (k_here; name_kind "globalImplicit"; k_dflt (first | (refine' nameX_K ?F ?X ?T ?e ?_ ?a ?b; (case F => k_asm); (case X => k_asm); (case T => k_asm); (case a => rfl); (case b => kernel_rfl); (case e => k_is); k_whole) | (refine' nameX_B ?F ?X ?T ?e ?v ?n ?_ ?a ?b; (case F => k_asm); (case X => k_asm); (case T => k_asm); (case a => rfl); (case b => kernel_rfl); (case e => k_is); (case v => boot_fast); (case n => decide); k_whole))))
local macro_rules | `(tactic| walk_at "eval Name") => `(tactic| (k_here; name_kind "local"; k_dflt (refine' nameX_L ?F ?v ?_ ?a ?b; (case F => k_asm); (case a => rfl); (case b => kernel_rfl); (case v => rfl); k_whole)))
local macro_rules | `(tactic| walk_at "eval Name") => `(tactic| (k_here; (with_reducible show wpAny _ _ (eval (Expr.Name (PySem.Str.ofString "bytearray") _) _) _ _ _); k_dflt (refine' nameX_B ?F ?X ?T ?e ?v ?n ?_ ?a ?b; (case F => k_asm); (case X => k_asm); (case T => k_asm); (case a => rfl); (case b => kernel_rfl); (case e => k_is); (case v => boot_by_name); (case n => decide); k_whole)))
theorem pack_refused {w : World} {mean : ExcName → Option Value} {mg mb : PySem.Str → Option Value} (news : List (Addr × Obj)) (txt : PySem.Str) (t t2 : Tok) (n : Int)
   (hat : ∀ D t' n' t, ClaimC w mean mg mb 57 ((D, tupO [.str txt t', n']) :: news) [.str txt t] 2 (RaisesC "ValueError" ((D, tupO [.str txt t', n']) :: news))) :
    Law1 w mean mg mb 214 news [.str txt t, .int n t2] 6 (Gives1 news fun _ => .bool true) := by
  intro dp un gd cn cs a ccd A₀ base h₀ L m s Q E B F X N T XB TB hkind hdp hun hret
  refine wpC_call ?_
  k_dflt (refine' code_defS0C ?k1 ?k2 ?k3 ?k4 ?k5 ?kA ?k6 ?k7 ?k8 ?k9 ?kB ?_ ?cK ?c2 ?c3 ?c4 ?c5; (case kA => exact rfl); (case k2 => k_asm); (case k1 => k_asm); (case k3 => k_asm); (case k4 => k_asm); (case k5 => k_asm); (case k6 => k_is); (case k7 => k_is); (case k8 => ktr_room); (case k9 => exact BindsTo.of_eq rfl); (case kB => exact locs rfl); (case cK => assumption); (case c2 => exact rfl); (case c3 => exact rfl); (case c4 => exact rfl); (case c5 => decide); k_whole; intro g' L' h' FG' F' N' B' X' T' D'; (try dsimp only))
  k_dflt (refine wpC_cons (wpC_Try (wpC_cons (wpC_ExprS (wpC_evalCall1 rfl ?_) rfl rfl))))
  walk1
  refine wpC_stop ?_
  k_steps
  refine Stop.mk ?_
  refine ⟨keep_f (K := hd.heap_39 w.params) (by k_is) (by k_in), ?_⟩
  refine pack_bad _ _ _ _ _ _ (List.mem_cons_self ..) (hat _ _ _) _ _ _ _ _ _ _ _ _ base g' L' _ _ _ _ (by k_asm) (by k_asm) (by k_asm) (by k_asm) (by k_asm) (by rfl) (by ktr_room) (by ktr_units) ?_
  intro G e h₅ tk FG R up
  have R := raised_drop R
  kts_caughtN
  k_steps
  exact hret 0 _ _ (by assumption) (by assumption)
end Mine
end
section
open PySem PySem.W PyProof.Rows PySem.Calls
set_option Elab.async false
set_option maxRecDepth 100000
namespace Mine
abbrev padd (a b c d : Int) : PySem.Str := PySem.Txt.join (PySem.Str.ofString ".") [zn a, zn b, zn c, zn d]
theorem zn_len640 {n : Int} (h : 0 ≤ n ∧ n < 256) : (zn n).length ≤ 640 := by
  have h1 := num_len (n := n) h.1 (by omega)
  show (PySem.Str.ofString "0" ++ num n).length ≤ _
  rw [PySem.Str.length_append]
  have : (PySem.Str.ofString "0").length = 1 := by decide +kernel
  omega
theorem num_len640 {n : Int} (h : 0 ≤ n ∧ n < 256) : (num n).length ≤ 640 := Nat.le_trans (num_len h.1 (by omega)) (by decide)
theorem join_len {a b c d : PySem.Str} (ha : a.length ≤ 640) (hb : b.length ≤ 640) (hc : c.length ≤ 640) (hd : d.length ≤ 640) : (PySem.Txt.join dotS [a, b, c, d]).length + 2 ≤ 10000 := by
  have hdot : dotS.length = 1 := by decide +kernel
  have e : (PySem.Txt.join dotS [a, b, c, d]).length = ([a, b, c, d].map (·.length)).sum + 3 * dotS.length := by
    rw [join_is]
    exact len_join_cons dotS a [b, c, d]
  rw [e, hdot]
  simp only [List.map_cons, List.map_nil, List.sum_cons, List.sum_nil]
  omega
theorem in4 {a b c d : Int} (hin : KBa.In [a, b, c, d]) : (0 ≤ a ∧ a < 256) ∧ (0 ≤ b ∧ b < 256) ∧ (0 ≤ c ∧ c < 256) ∧ (0 ≤ d ∧ d < 256) := ⟨hin a (by simp), hin b (by simp), hin c (by simp), hin d (by simp)⟩
section
variable {w : World} {mean : ExcName → Option Value} {mg mb : PySem.Str → Option Value} (news : List (Addr × Obj)) (t t2 : Tok) (D : Addr) (n a b c d p q : Int)
theorem aton_padd (hin : KBa.In [a, b, c, d]) : Claim w mean mg mb 57 news [.str (padd a b c d) t] 2 (Gives1 news fun t => .bytes (byteArr [a, b, c, d]) t) := by
  obtain ⟨ha, hb, hc, hd'⟩ := in4 hin
  exact aton_ok news _ t (zn a) (zn b) (zn c) (zn d) a b c d (split4 (zn_free ha.1) (zn_free hb.1) (zn_free hc.1) (zn_free hd'.1)) (join_len (zn_len640 ha) (zn_len640 hb) (zn_len640 hc) (zn_len640 hd'))
    (zn_reads ha.1 (by omega)) (zn_reads hb.1 (by omega)) (zn_reads hc.1 (by omega)) (zn_reads hd'.1 (by omega)) (zn_len640 ha) (zn_len640 hb) (zn_len640 hc) (zn_len640 hd') hin
theorem pack_dots (hD : (D, tupO [.str (dots a b c d) t, .int n t2]) ∈ news) (hin : KBa.In [a, b, c, d]) (hp : n % 65536 / 256 = p) (hq : n % 65536 % 256 = q) : Claim w mean mg mb 171 news [.ref D] 4 (Gives1 news fun t => .bytes (byteArr [a, b, c, d, p, q]) t) := by
  obtain ⟨ha, hb, hc, hd'⟩ := in4 hin
  subst hp hq
  exact pack_ok news _ t t2 D n (num a) (num b) (num c) (num d) a b c d hD (dots_split hin) (join_len (num_len640 ha) (num_len640 hb) (num_len640 hc) (num_len640 hd'))
    (num_reads ha) (num_reads hb) (num_reads hc) (num_reads hd') (num_len640 ha) (num_len640 hb) (num_len640 hc) (num_len640 hd') hin
theorem pack_padd (hD : (D, tupO [.str (padd a b c d) t, .int n t2]) ∈ news) (hin : KBa.In [a, b, c, d]) (hp : n % 65536 / 256 = p) (hq : n % 65536 % 256 = q) : Claim w mean mg mb 171 news [.ref D] 4 (Gives1 news fun t => .bytes (byteArr [a, b, c, d, p, q]) t) := by
  obtain ⟨ha, hb, hc, hd'⟩ := in4 hin
  subst hp hq
  exact pack_ok news _ t t2 D n (zn a) (zn b) (zn c) (zn d) a b c d hD (split4 (zn_free ha.1) (zn_free hb.1) (zn_free hc.1) (zn_free hd'.1)) (join_len (zn_len640 ha) (zn_len640 hb) (zn_len640 hc) (zn_len640 hd'))
    (zn_reads ha.1 (by omega)) (zn_reads hb.1 (by omega)) (zn_reads hc.1 (by omega)) (zn_reads hd'.1 (by omega)) (zn_len640 ha) (zn_len640 hb) (zn_len640 hc) (zn_len640 hd') hin
end
section
variable {prog : Program} {w : World} {A : Around} {E : Value → Shared → Prop} {s : Shared} {Q : Value → Shared → Prop} {h₀ : Heap} {L : Addr} {news : List (Addr × Obj)}
theorem mod_known {a b r : Int} {t u : Tok} (hb : b ≠ 0) (e : a.fmod b = r) (h : ∀ t' k, Q (.int r t') { s with toks := k }) : wpAny (model prog w) A (binaryOp .Mod (.int a t) (.int b u)) Q E s := mod_int hb (e ▸ h _ _)
theorem div_known {a b r : Int} {t u : Tok} (hb : b ≠ 0) (e : a.fdiv b = r) (hp : Builtin.divisionGoesByPylong a b = false) (h : ∀ t' k, Q (.int r t') { s with toks := k }) : wpAny (model prog w) A (binaryOp .FloorDiv (.int a t) (.int b u)) Q E s := floordiv_int hb (e ▸ h _ _) (Or.inl hp)
theorem byte_app {a b c d p q : Int} : byteArr [a, b, c, d] ++ byteArr [p, q] = byteArr [a, b, c, d, p, q] := by simp [byteArr]
theorem ne_bytes_same {b c : Array UInt8} {t u : Tok} (e : b = c) (h : Q (.bool false) s) : wpAny (model prog w) A (compareOp .NotEq (.bytes b t) (.bytes c u)) Q E s := by
  subst e
  refine ne_bytes ?_
  simpa using h
theorem ne_str_same {x y : PySem.Str} {t u : Tok} (e : x = y) (h : Q (.bool false) s) : wpAny (model prog w) A (compareOp .NotEq (.str x t) (.str y u)) Q E s := by
  subst e
  refine P.ne_str ?_
  simpa using h
theorem eqAt_bytes (b : Array UInt8) (t u : Tok) {A : Around} {s : Shared} : SeqAt.EqAt A s (.bytes b t) (.bytes b u) true := fun prog w E Q h => by
  unfold eqBool
  refine wpAny_holding ?_
  refine wpAny_ite_split (fun _ => wpAny_bind (wpAny_rule (wpAny_pure h))) (fun _ => ?_)
  refine wpAny_bind ?_
  show wpAny _ _ (compareOp .Eq (.bytes b t) (.bytes b u)) _ _ _
  refine eq_bytes (wpAny_truthy_bool ?_)
  simpa using h
theorem tupAt {T : Addr} {vs : Array Value} (N : News h₀ L s.heap news) (hT : (T, ({ cls := .type "tuple", data := .seq vs } : Obj)) ∈ news) : s.heap.IsTuple T vs := ⟨_, (N _ hT).1, rfl, _, rfl⟩
theorem eqAt_pair {T T' : Addr} {x : PySem.Str} {i : Int} {t u t' u' : Tok} (N : News h₀ L s.heap news) (hT : (T, tupO [.str x t, .int i u]) ∈ news) (hT' : (T', tupO [.str x t', .int i u']) ∈ news) (hu : A.units < cLine) : SeqAt.EqAt A s (.ref T) (.ref T') true := fun prog w E Q h => by
  unfold eqBool
  refine wpAny_holding ?_
  refine wpAny_ite_split (fun _ => wpAny_bind (wpAny_rule (wpAny_pure h))) (fun _ => ?_)
  refine wpAny_bind (SeqAt.RcAt.tuples (e := fun _ => true) (tupAt N hT) (tupAt N hT') hu (fun j h1 h2 => ?_) prog w E _ (wpAny_truthy_bool ?_))
  · match j, h1, h2 with
    | 0, _, _ => have z := SeqAt.EqAt.str_str (A := A.in1) (s := s) x t x t'; simpa using z
    | 1, _, _ => have z := SeqAt.EqAt.int_int (A := A.in1) (s := s) i u i u'; simpa using z
    | j + 2, h1, _ => exact absurd h1 (by simp)
  · exact h
theorem ne_pair {T T' : Addr} {x : PySem.Str} {i : Int} {t u t' u' : Tok} (N : News h₀ L s.heap news) (hT : (T, tupO [.str x t, .int i u]) ∈ news) (hT' : (T', tupO [.str x t', .int i u']) ∈ news) (hu : A.units < cLine) (h : Q (.bool false) s) : wpAny (model prog w) A (compareOp .NotEq (.ref T) (.ref T')) Q E s := by
  refine SeqAt.RcNeAt.tuples (e := fun _ => true) (tupAt N hT) (tupAt N hT') hu (fun j h1 h2 => ?_) prog w E Q ?_
  · match j, h1, h2 with
    | 0, _, _ => have z := SeqAt.EqAt.str_str (A := A.in1) (s := s) x t x t'; simpa using z
    | 1, _, _ => have z := SeqAt.EqAt.int_int (A := A.in1) (s := s) i u i u'; simpa using z
    | j + 2, h1, _ => exact absurd h1 (by simp)
  · exact h
theorem ne_four {D D' T T' : Addr} {b b' : Array UInt8} {x : PySem.Str} {i j k : Int} {t1 t2 t3 t4 t5 t1' t2' t3' t4' t5' : Tok} (N : News h₀ L s.heap news) (hD : (D, tupO [.bytes b t1, .ref T, .int j t2, .int k t3]) ∈ news) (hD' : (D', tupO [.bytes b' t1', .ref T', .int j t2', .int k t3']) ∈ news)
   (hT : (T, tupO [.str x t4, .int i t5]) ∈ news) (hT' : (T', tupO [.str x t4', .int i t5']) ∈ news) (e : b = b') (hu : A.units + 1 < cLine) (h : Q (.bool false) s) : wpAny (model prog w) A (compareOp .NotEq (.ref D) (.ref D')) Q E s := by
  subst e
  refine SeqAt.RcNeAt.tuples (e := fun _ => true) (tupAt N hD) (tupAt N hD') (by omega) (fun m h1 h2 => ?_) prog w E Q ?_
  · match m, h1, h2 with
    | 0, _, _ => exact eqAt_bytes b t1 t1'
    | 1, _, _ => exact eqAt_pair N hT hT' hu
    | 2, _, _ => have z := SeqAt.EqAt.int_int (A := A.in1) (s := s) j t2 j t2'; simpa using z
    | 3, _, _ => have z := SeqAt.EqAt.int_int (A := A.in1) (s := s) k t3 k t3'; simpa using z
    | m + 4, h1, _ => exact absurd h1 (by simp)
  · exact h
end
end Mine
namespace Mine
theorem wpC_ne2 {prog : Program} {w : World} {A : Around} {E : Value → Shared → Prop} {s : Shared} {env : Env} {l r : Expr} {pos : Pos} {t : Sem Value} {Q : Bool → Shared → Prop} (hm : markedEach [.NotEq] [r] (evalEach [r] env) = [eval r env])
    (h : wpC (model prog w) A (eval l env) (fun v s' => wpAny (model prog w) A (eval r env) (fun b s₁ => wpAny (model prog w) A (compareOp .NotEq v b) (fun c s₂ => wpAny (model prog w) A (truthy c) Q E s₂) E s₁) E s') E s) :
    wpC (model prog w) A (isTrue (.Compare l [.NotEq] [r] pos) env t) Q E s :=
  wpC_ne (wpC_mono h (fun v s' h' => by rw [hm]; exact test_last h') fun _ _ e => e)
end Mine
namespace Mine
theorem ints6 {a b c d p q : Int} (h : KBa.In [a, b, c, d]) (h2 : KBa.In [p, q]) : KBw.bInts (byteArr [a, b, c, d] ++ byteArr [p, q]) = [a, b, c, d, p, q] := KBw.ints_app (KBa.ints_make h) (KBa.ints_make h2)
theorem ints7 {a b c d p q r : Int} (h : KBa.In [a, b, c, d]) (h2 : KBa.In [p, q]) (h3 : KBa.In [r]) : KBw.bInts (byteArr [a, b, c, d] ++ byteArr [p, q] ++ byteArr [r]) = [a, b, c, d, p, q, r] := KBw.ints_app (ints6 h h2) (KBa.ints_make h3)
end Mine
end
section
open PySem PySem.W PyProof.Rows PySem.Calls
set_option Elab.async false
set_option maxRecDepth 100000
namespace Mine
section
variable {prog : Program} {w : World} {A : Around} {E : Value → Shared → Prop} {s : Shared} {R : Result → Shared → Prop} {env : Env} {h₀ : Heap}
theorem loopT {x : PySem.Str} {px : Pos} {body : List Stmt} {I T : Addr} {vs : List Value} {news : List (Addr × Obj)} {J : (PySem.Str → Option Value) → Prop} (hh : A.handled = none) (hx : env.kindOf x = some .local)
    (hp : (env.scope.kind == .class || (env.scope.kind == .module && env.locals != env.globals)) = false) (hT : (T, tupO vs) ∈ news) (hI : ∀ p ∈ news, p.1 ≠ I)
    (turn : ∀ (v : Value) (m₁ : PySem.Str → Option Value) (h : Heap) (tk : Nat) (o : Obj), v ∈ vs → J m₁ → Fr h₀ env.locals h (fun y => if y = x then some v else m₁ y) → News h₀ env.locals h ((I, o) :: news) →
      wpC (model prog w) A (execs body env) (fun fl s' => fl = .next ∧ ∃ h' tk' m', s' = { s with heap := h', toks := tk' } ∧ J m' ∧ Fr h₀ env.locals h' m' ∧ News h₀ env.locals h' ((I, o) :: news)) (fun _ _ => False) { s with heap := h, toks := tk })
    (done : ∀ m₁ h tk, J m₁ → Fr h₀ env.locals h m₁ → News h₀ env.locals h news → R (.ok .next) { s with heap := h, toks := tk }) :
    ∀ (k i : Nat) (m : PySem.Str → Option Value) (h : Heap) (tk : Nat) (o : Obj), vs.length - i = k → i ≤ vs.length → J m → Fr h₀ env.locals h m → News h₀ env.locals h ((I, o) :: news) → o.cls = .type "tuple_iterator" → o.data = .fields #[.ref T, .int i 0] →
      codeC (model prog w) A (.forLoop (.Name x px) (.ref I) body [] env) R { s with heap := h, toks := tk } := by
  intro k
  induction k with
  | zero =>
    intro i m h tk o hk hle hJ F N hc hd
    have hi0 : i = vs.length := by omega
    subst hi0
    obtain ⟨hI1, hI2, hI3⟩ := N (I, o) (.head _)
    obtain ⟨hl1, hl2, hl3⟩ := N (T, _) (.tail _ hT)
    refine codeC_of_tree rfl ?_
    rw [Around.under_of_weight rfl]
    show wpC _ A ((forTurn (.Name x px) (.ref I) body [] env).onRaise _) _ _ _
    refine wpC_onRaise ?_
    unfold forTurn
    refine wpC_bindA (wpAny_standAt ?_)
    refine wpC_bind (wpC_onRaise (wpC_any (wpAny_pyNext_tuple_end (items := vs.toArray) hh ⟨o, hI1, hc, hd⟩ ⟨_, hl1, rfl, _, rfl⟩ (by simp) fun h' he => ?_)))
    dsimp only
    refine wpC_pure ⟨rfl, codeC_any (codeAny_block (wpAny_execs_nil ?_))⟩
    exact done m h' tk hJ (fr_ext F he (fun e => hI2 e.symm) hI3) fun p hp => let z := N p (.tail _ hp); ⟨he _ _ (hI p hp) z.1, z.2⟩
  | succ k ih =>
    intro i m h tk o hk hle hJ F N hc hd
    have hlt : i < vs.length := by omega
    obtain ⟨hI1, hI2, hI3⟩ := N (I, o) (.head _)
    obtain ⟨hl1, hl2, hl3⟩ := N (T, _) (.tail _ hT)
    obtain ⟨v, hv⟩ : ∃ v, vs[i]? = some v := ⟨vs[i]'(by omega), List.getElem?_eq_getElem (by omega)⟩
    refine codeC_of_tree rfl ?_
    rw [Around.under_of_weight rfl]
    show wpC _ A ((forTurn (.Name x px) (.ref I) body [] env).onRaise _) _ _ _
    refine wpC_onRaise ?_
    unfold forTurn
    refine wpC_bindA (wpAny_standAt ?_)
    refine wpC_bind (wpC_onRaise (wpC_any (wpAny_pyNext_tuple_item (items := vs.toArray) (x := v) ⟨o, hI1, hc, hd⟩ ⟨_, hl1, rfl, _, rfl⟩ (by simpa using hv) fun h' hit' hs => ?_)))
    dsimp only
    refine wpC_bind (wpC_of_eq (a := ()) rfl ?_)
    have F₁ : Fr h₀ env.locals h' m := fr_ext F hs.extBut (fun e => hI2 e.symm) hI3
    refine wpC_bindA (wpAny_assign_Name (wpAny_storeName_local hx F₁.ns (fun h'' hn' hs' => ?_) hp))
    have F₂ := F₁.set hn' hs'
    obtain ⟨o', ho', hc', hd'⟩ := hit'
    have N₂ : News h₀ env.locals h'' ((I, o') :: news) := by
      intro p hp'
      rcases List.mem_cons.mp hp' with rfl | hp'
      · exact ⟨hs'.extBut _ _ hI2 ho', hI2, hI3⟩
      · have z := N p (.tail _ hp')
        exact ⟨hs'.extBut _ _ z.2.1 (hs.extBut _ _ (hI p hp') z.1), z.2⟩
    refine wpC_bind (wpC_mono (turn v m h'' _ o' (List.mem_of_getElem? hv) hJ F₂ N₂) (fun fl s' hf => ?_) fun _ _ e => e)
    obtain ⟨rfl, h₃, tk₃, m₃, rfl, J₃, F₃, N₃⟩ := hf
    dsimp only
    exact wpC_pure ⟨rfl, ih (i + 1) m₃ h₃ tk₃ o' (by omega) hlt J₃ F₃ N₃ hc' hd'⟩
theorem wpC_ForT {x : PySem.Str} {px pos : Pos} {iter : Expr} {body : List Stmt} {Q : Flow → Shared → Prop} (hh : A.handled = none) (hx : env.kindOf x = some .local)
    (hp : (env.scope.kind == .class || (env.scope.kind == .module && env.locals != env.globals)) = false) (J : (PySem.Str → Option Value) → Prop) (P : List Value → Prop) (news : List (Addr × Obj))
    (h : wpAny (model prog w) A (eval iter env) (fun xv s₁ => Stop (∃ (T : Addr) (vs : List Value) (m : PySem.Str → Option Value) (h : Heap) (tk : Nat), s₁ = { s with heap := h, toks := tk } ∧ xv = .ref T ∧ P vs ∧ J m ∧ Fr h₀ env.locals s₁.heap m ∧ News h₀ env.locals s₁.heap ((T, tupO vs) :: news))) E s)
    (turn : ∀ (I T : Addr) (vs : List Value) (v : Value) (m₁ : PySem.Str → Option Value) (h : Heap) (tk : Nat) (o : Obj), P vs → v ∈ vs → J m₁ → Fr h₀ env.locals h (fun y => if y = x then some v else m₁ y) → News h₀ env.locals h ((I, o) :: (T, tupO vs) :: news) →
        wpC (model prog w) A (execs body env) (fun fl s' => fl = .next ∧ ∃ h' tk' m', s' = { s with heap := h', toks := tk' } ∧ J m' ∧ Fr h₀ env.locals h' m' ∧ News h₀ env.locals h' ((I, o) :: (T, tupO vs) :: news)) (fun _ _ => False) { s with heap := h, toks := tk })
    (done : ∀ m₁ h tk, J m₁ → Fr h₀ env.locals h m₁ → News h₀ env.locals h news → Q .next { s with heap := h, toks := tk })
    (hs : ∀ x, foldedSetIterable iter env x = pure x := by intro _; rfl) :
    wpC (model prog w) A (exec (.For (.Name x px) iter body [] pos) env) Q E s := by
  rw [exec_For]
  refine wpC_bindA (wpAny_standAt ?_)
  refine wpC_bindA (wpAny_mono h (fun xv s₁ h₁ => ?_) fun _ _ e => e)
  obtain ⟨T, vs, m, h, tk, rfl, rfl, hP, hJ, F, N⟩ := h₁
  refine wpC_bind (wpC_of_eq (hs _) ?_)
  refine wpC_bindA (wpAny_standAt ?_)
  obtain ⟨hl1, hl2, hl3⟩ := N (T, _) (.head _)
  refine wpC_bindA (wpAny_holding (wpAny_pyIter_tuple (items := vs.toArray) ⟨_, hl1, rfl, _, rfl⟩ ?_))
  refine wpC_ownLoop ?_
  refine loopT (s := s) (T := T) (vs := vs) (news := (T, tupO vs) :: news) (J := J) hh hx hp (List.mem_cons_self ..) (fun p hp => Nat.ne_of_lt (Heap.lt_size (N p hp).1)) (fun v m₁ h tk o hv hJ F N => turn _ T vs v m₁ h tk o hP hv hJ F N) (fun m₁ h tk hJ F₁ N₁ => done m₁ h tk hJ F₁ fun p hp => N₁ p (.tail _ hp)) vs.length 0 m _ tk { cls := .type "tuple_iterator", data := .fields #[.ref T, .int 0 0] } rfl (Nat.zero_le _) hJ (F.push _) ?_ rfl rfl
  intro p hp'
  rcases List.mem_cons.mp hp' with rfl | hp'
  · exact ⟨Heap.get?_push_size _ rfl, Ne.symm (Nat.ne_of_lt F.ns.lt), next_is_new F⟩
  · have z := N p hp'
    exact ⟨Heap.get?_push_of_some _ z.1, z.2⟩
end
end Mine
end
section
open PySem PySem.W PyProof.Rows PySem.Calls
set_option Elab.async false
set_option maxRecDepth 100000
namespace Mine
section
variable {prog : Program} {w : World} {A : Around} {E : Value → Shared → Prop} {s : Shared} {R : Result → Shared → Prop} {env : Env}
theorem wpC_spliced2 {x y : Sem Value} {Q : List Value → Shared → Prop} (h : wpC (model prog w) A x (fun v s' => wpC (model prog w) A y (fun u s'' => Q [v, u] s'') E s') E s) : wpC (model prog w) A (spliced [(false, x), (false, y)]) Q E s := by
  unfold spliced
  refine wpC_bind (wpC_mono h (fun v s' h' => ?_) fun _ _ h' => h')
  refine wpC_if_false rfl ?_
  refine wpC_bind (wpC_pure ?_)
  refine wpC_bind (wpC_holding (wpC_spliced1 (wpC_mono h' (fun u s'' h'' => ?_) fun _ _ h'' => h'')))
  exact wpC_pure h''
theorem wpC_evalArgs2 {f : Value} {x y : Sem Value} {Q : Args → Shared → Prop} (h : wpC (model prog w) A x (fun v s' => wpC (model prog w) A y (fun u s'' => Q ⟨[v, u], []⟩ s'') E s') E s) : wpC (model prog w) A (evalArgs f true [(false, x), (false, y)] []) Q E s := by
  unfold evalArgs
  refine wpC_bind (wpC_spliced2 (wpC_mono h (fun v s' h' => wpC_mono h' (fun u s'' h'' => ?_) fun _ _ h'' => h'') fun _ _ h' => h'))
  refine wpC_bind (wpC_pure ?_)
  refine wpC_holding ?_
  refine wpC_if_true rfl ?_
  refine wpC_bind (wpC_of_eq (a := ([] : List Value)) rfl ?_)
  refine wpC_bind (wpC_pure ?_)
  exact wpC_pure h''
theorem wpC_callWith2 {pos : Pos} {f : Value} {x y : Sem Value} {Q : Value → Shared → Prop}
    (h : wpC (model prog w) A x (fun v s' => wpC (model prog w) A y (fun u s'' => (∃ k, Looks (model prog w) s''.heap (keeperOf f) k ∧ (k = Keeper.frame ∨ k = Keeper.machine)) ∧ wpC (model prog w) A (call f [v, u]) Q E s'') E s') E s) :
    wpC (model prog w) A (callWith pos f [] (backTo pos [(false, x), (false, y)]) []) Q E s := by
  unfold callWith
  refine wpC_bind (wpC_holding ?_)
  show wpC _ _ (evalArgs f true [(false, x), (false, y)] []) _ _ _
  refine wpC_evalArgs2 (wpC_mono h (fun v s' h' => wpC_mono h' (fun u s' h' => ?_) fun _ _ h' => h') fun _ _ h' => h')
  refine wpC_bindA (wpAny_standAt ?_)
  obtain ⟨⟨k, hk, hk'⟩, h'⟩ := h'
  refine wpC_bindA (hk.here ?_)
  have tail : ∀ {t : Sem Value}, wpC (model prog w) A t Q E s' → wpC (model prog w) A (t >>= fun r => holding [r] point >>= fun _ => pure r) Q E s' :=
    fun ht => wpC_bind (wpC_mono ht (fun r s₂ hr => wpC_bind (wpC_holding (wpC_any (wpAny_point (wpC_pure hr))))) fun _ _ x => x)
  rcases hk' with rfl | rfl
  · exact tail (wpC_keep h')
  · exact tail h'
theorem wpC_evalCall2 {f : PySem.Str} {fpos pos : Pos} {x y : Expr} {Q : Value → Shared → Prop} (hx : starEach [x, y] env = [(false, eval x env), (false, eval y env)])
    (h : wpAny (model prog w) A (eval (.Name f fpos) env) (fun fv s₁ => wpC (model prog w) A (eval x env) (fun v s' => wpC (model prog w) A (eval y env) (fun u s'' => (∃ k, Looks (model prog w) s''.heap (keeperOf fv) k ∧ (k = Keeper.frame ∨ k = Keeper.machine)) ∧ wpC (model prog w) A (call fv [v, u]) Q E s'') E s') E s₁) E s) :
    wpC (model prog w) A (eval (.Call (.Name f fpos) [x, y] [] pos) env) Q E s := by
  show wpC _ _ (do callWith pos (← eval (.Name f fpos) env) [] (backTo pos (starEach [x, y] env)) []) _ _ _
  refine wpC_bindA (wpAny_mono h (fun fv s₁ h₁ => ?_) fun _ _ h' => h')
  rw [hx]
  exact wpC_callWith2 h₁
theorem wpC_testCall {f : Expr} {as : List Expr} {ks : List Keyword} {pos : Pos} {t : Sem Value} {Q : Bool → Shared → Prop} (h : wpC (model prog w) A t (fun v s' => wpAny (model prog w) A (truthy v) Q E s') E s) :
    wpC (model prog w) A (isTrue (.Call f as ks pos) env t) Q E s := by
  show wpC _ _ (do let v ← t; standAt pos; holding [v] (truthy v)) _ _ _
  exact wpC_bind (wpC_mono h (fun v s' h' => wpC_bindA (wpAny_standAt (wpC_holding (wpC_any h')))) fun _ _ h' => h')
end
end Mine
end
section
open PySem PySem.W PyProof.Rows PySem.Calls
set_option Elab.async false
set_option maxRecDepth 100000
namespace Mine
theorem bytes_same {b c : Array UInt8} (h : KBw.bInts b = KBw.bInts c) : b = c := by
  apply Array.toList_inj.mp
  refine (List.map_inj_right ?_).mp h
  intro x y e
  exact UInt8.toNat_inj.mp (by exact_mod_cast e)
theorem six_same {bb : Array UInt8} {a b c d p q : Int} (h : KBw.bInts bb = [a, b, c, d, p, q]) (h1 : KBa.In [a, b, c, d]) (h2 : KBa.In [p, q]) : bb = byteArr [a, b, c, d] ++ byteArr [p, q] :=
  bytes_same (h.trans (ints6 h1 h2).symm)
theorem news_sub {h₀ h : Heap} {L : Addr} {news news' : List (Addr × Obj)} (N : News h₀ L h news) (s : ∀ p ∈ news', p ∈ news) : News h₀ L h news' := fun p hp => N p (s p hp)
end Mine
namespace Mine
theorem news_pick {h₀ h : Heap} {L : Addr} {news : List (Addr × Obj)} (N : News h₀ L h news) (is : List Nat) : News h₀ L h (is.filterMap fun i => news[i]?) := by
  intro p hp
  obtain ⟨i, _, hi⟩ := List.mem_filterMap.mp hp
  exact N p (List.mem_of_getElem? hi)
theorem four_of (n : Int) : ∃ k : Nat, k < 4 ∧ n.fmod 4 = (k : Int) := by
  have h1 := Int.fmod_nonneg_of_pos n (b := 4) (by decide)
  have h2 := Int.fmod_lt_of_pos n (b := 4) (by decide)
  exact ⟨(n.fmod 4).toNat, by omega, by omega⟩
theorem five_of (n : Int) : 0 ≤ n.fmod 5 ∧ n.fmod 5 < 5 := ⟨Int.fmod_nonneg_of_pos n (by decide), Int.fmod_lt_of_pos n (by decide)⟩
end Mine
end
section
open PySem PySem.W PyProof.Rows PySem.Calls
set_option Elab.async false
set_option maxRecDepth 100000
namespace Mine
structure BadWord (wd : PySem.Str) : Prop where
  free : 46 ∉ wd.cps.toList
  short : wd.length ≤ 100
  bad : BadInt wd ∨ ∃ v, PySem.intText? wd = some v ∧ (v < 0 ∨ 256 ≤ v)
abbrev wds (x y z u : Int) (k : Nat) (wd : PySem.Str) : List PySem.Str := [num x, num y, num z, num u].set k wd
abbrev WDS (x y z u : Int) (k : Nat) (wd : PySem.Str) : PySem.Str := PySem.Txt.join dotS (wds x y z u k wd)
theorem bw_x : BadWord (PySem.Str.ofString "x") := ⟨by decide +kernel, by decide +kernel, .inl bad_x⟩
theorem bw_e : BadWord (PySem.Str.ofString "") := ⟨by decide +kernel, by decide +kernel, .inl bad_e⟩
theorem bw_m : BadWord (PySem.Str.ofString "-1") := ⟨by decide +kernel, by decide +kernel, .inr ⟨-1, by decide +kernel, by decide⟩⟩
theorem bw_n {n : Int} (h0 : 256 ≤ n) (h1 : n < 1000) : BadWord (num n) := ⟨num_free (by omega), num_len (by omega) (by omega), .inr ⟨n, KIN.num_reads (by omega) (by omega), .inr h0⟩⟩
theorem num255 : PySem.Str.ofString "255" = num 255 := by decide +kernel
theorem good_num {n : Int} (h : 0 ≤ n ∧ n < 256) : GoodInt (num n) := ⟨num_len640 h, n, num_reads h⟩
section
variable {w : World} {mean : ExcName → Option Value} {mg mb : PySem.Str → Option Value}
theorem with_any (news : List (Addr × Obj)) (D : Addr) (x y z u : Int) (t1 t2 t3 t4 tp tw : Tok) (wd : PySem.Str) (k : Nat) (hk : k < 4) (hw : wd.length ≤ 100) (hin : KBa.In [x, y, z, u]) (hD : (D, listOf #[.int x t1, .int y t2, .int z t3, .int u t4] 0) ∈ news) :
    Claim w mean mg mb 200 news [.ref D, .int (k : Int) tp, .str wd tw] 2 (Gives1 news fun t => .str (WDS x y z u k wd) t) := by
  match k, hk with
  | 0, _ => exact law_with0 news D x y z u t1 t2 t3 t4 tp tw wd hw hin hD
  | 1, _ => exact law_with1 news D x y z u t1 t2 t3 t4 tp tw wd hw hin hD
  | 2, _ => exact law_with2 news D x y z u t1 t2 t3 t4 tp tw wd hw hin hD
  | 3, _ => exact law_with3 news D x y z u t1 t2 t3 t4 tp tw wd hw hin hD
theorem refused (news : List (Addr × Obj)) (x y z u : Int) (wd : PySem.Str) (k : Nat) (hk : k < 4) (hb : BadWord wd) (hin : KBa.In [x, y, z, u]) (t : Tok) :
    ClaimC w mean mg mb 57 news [.str (WDS x y z u k wd) t] 2 (RaisesC "ValueError" news) := by
  obtain ⟨hx, hy, hz, hu⟩ := in4 hin
  have fx := num_free hx.1
  have fy := num_free hy.1
  have fz := num_free hz.1
  have fu := num_free hu.1
  have lx := num_len640 hx
  have ly := num_len640 hy
  have lz := num_len640 hz
  have lu := num_len640 hu
  have lw : wd.length ≤ 640 := Nat.le_trans hb.short (by decide)
  have fw := hb.free
  rcases hb.bad with bad | ⟨v, hv, bad⟩
  · match k, hk with
    | 0, _ => exact aton_bad news _ t wd (num y) (num z) (num u) 0 wd (split4 fw fy fz fu) (join_len lw ly lz lu) rfl (fun i v hi => absurd hi (Nat.not_lt_zero _)) bad
    | 1, _ => exact aton_bad news _ t (num x) wd (num z) (num u) 1 wd (split4 fx fw fz fu) (join_len lx lw lz lu) rfl (fun i v hi he => by
        obtain rfl : i = 0 := by omega
        cases he; exact good_num hx) bad
    | 2, _ => exact aton_bad news _ t (num x) (num y) wd (num u) 2 wd (split4 fx fy fw fu) (join_len lx ly lw lu) rfl (fun i v hi he => by
        obtain rfl | rfl : i = 0 ∨ i = 1 := by omega
        · cases he; exact good_num hx
        · cases he; exact good_num hy) bad
    | 3, _ => exact aton_bad news _ t (num x) (num y) (num z) wd 3 wd (split4 fx fy fz fw) (join_len lx ly lz lw) rfl (fun i v hi he => by
        obtain rfl | rfl | rfl : i = 0 ∨ i = 1 ∨ i = 2 := by omega
        · cases he; exact good_num hx
        · cases he; exact good_num hy
        · cases he; exact good_num hz) bad
  · match k, hk with
    | 0, _ => exact aton_range news _ t wd (num y) (num z) (num u) v y z u 0 v (split4 fw fy fz fu) (join_len lw ly lz lu) hv (num_reads hy) (num_reads hz) (num_reads hu) lw ly lz lu rfl (fun i v hi => absurd hi (Nat.not_lt_zero _)) bad
    | 1, _ => exact aton_range news _ t (num x) wd (num z) (num u) x v z u 1 v (split4 fx fw fz fu) (join_len lx lw lz lu) (num_reads hx) hv (num_reads hz) (num_reads hu) lx lw lz lu rfl (fun i v hi he => by
        obtain rfl : i = 0 := by omega
        cases he; exact hx) bad
    | 2, _ => exact aton_range news _ t (num x) (num y) wd (num u) x y v u 2 v (split4 fx fy fw fu) (join_len lx ly lw lu) (num_reads hx) (num_reads hy) hv (num_reads hu) lx ly lw lu rfl (fun i v hi he => by
        obtain rfl | rfl : i = 0 ∨ i = 1 := by omega
        · cases he; exact hx
        · cases he; exact hy) bad
    | 3, _ => exact aton_range news _ t (num x) (num y) (num z) wd x y z v 3 v (split4 fx fy fz fw) (join_len lx ly lz lw) (num_reads hx) (num_reads hy) (num_reads hz) hv lx ly lz lw rfl (fun i v hi he => by
        obtain rfl | rfl | rfl : i = 0 ∨ i = 1 ∨ i = 2 := by omega
        · cases he; exact hx
        · cases he; exact hy
        · cases he; exact hz) bad
end
end Mine
end
section
open PySem PySem.W PyProof.Rows PySem.Calls
set_option Elab.async false
set_option maxRecDepth 100000
namespace Mine
def Spot (j : Int) : Prop := j = 0 ∨ j = 1 ∨ j = 2 ∨ j = 3
theorem spot_of (n : Int) : ∃ j : Int, Spot j ∧ n.fmod 4 = j := by
  obtain ⟨k, hk, e⟩ := four_of n
  refine ⟨k, ?_, e⟩
  unfold Spot; omega
theorem spot_lt {j : Int} (h : Spot j) : j.toNat < 4 := by unfold Spot at h; omega
theorem spot_nat {j : Int} (h : Spot j) : ((j.toNat : Nat) : Int) = j := by unfold Spot at h; omega
theorem set_in {a b c d v : Int} (h : KBa.In [a, b, c, d]) (hv : 0 ≤ v ∧ v < 256) (k : Nat) : KBa.In ([a, b, c, d].set k v) := by
  intro x hx
  rcases List.mem_or_eq_of_mem_set hx with h' | rfl
  · exact h x h'
  · exact hv
section
variable {w : World} {mean : ExcName → Option Value} {mg mb : PySem.Str → Option Value}
theorem with_int (news : List (Addr × Obj)) (D : Addr) (x y z u : Int) (t1 t2 t3 t4 tp tw : Tok) (wd : PySem.Str) (j : Int) (hj : Spot j) (hw : wd.length ≤ 100) (hin : KBa.In [x, y, z, u]) (hD : (D, listOf #[.int x t1, .int y t2, .int z t3, .int u t4] 0) ∈ news) :
    Claim w mean mg mb 200 news [.ref D, .int j tp, .str wd tw] 2 (Gives1 news fun t => .str (WDS x y z u j.toNat wd) t) := by
  have h := with_any (w := w) (mean := mean) (mg := mg) (mb := mb) news D x y z u t1 t2 t3 t4 tp tw wd j.toNat (spot_lt hj) hw hin hD
  rw [spot_nat hj] at h
  exact h
theorem aton_top (news : List (Addr × Obj)) (x y z u : Int) (t : Tok) (j : Int) (hj : Spot j) (hin : KBa.In [x, y, z, u]) :
    Claim w mean mg mb 57 news [.str (WDS x y z u j.toNat (PySem.Str.ofString "255")) t] 2 (Gives1 news fun t => .bytes (byteArr ([x, y, z, u].set j.toNat 255)) t) := by
  have hs := set_in hin (v := 255) (by decide)
  rw [num255]
  rcases hj with rfl | rfl | rfl | rfl
  · exact aton_dots news t 255 y z u (hs 0)
  · exact aton_dots news t x 255 z u (hs 1)
  · exact aton_dots news t x y 255 u (hs 2)
  · exact aton_dots news t x y z 255 (hs 3)
theorem read_word (news : List (Addr × Obj)) (x y z u : Int) (wd : PySem.Str) (j : Int) (hj : Spot j) (hb : BadWord wd) (hin : KBa.In [x, y, z, u]) (t : Tok) :
    Law1 w mean mg mb 207 news [.str (WDS x y z u j.toNat wd) t] 4 (Gives1 news fun _ => .bool true) :=
  read_refused news _ t fun t => refused news x y z u wd j.toNat (spot_lt hj) hb hin t
theorem pack_word (news : List (Addr × Obj)) (x y z u : Int) (wd : PySem.Str) (j : Int) (hj : Spot j) (hb : BadWord wd) (hin : KBa.In [x, y, z, u]) (t t2 : Tok) (n : Int) :
    Law1 w mean mg mb 214 news [.str (WDS x y z u j.toNat wd) t, .int n t2] 6 (Gives1 news fun _ => .bool true) :=
  pack_refused news _ t t2 n fun _ _ _ t => refused _ x y z u wd j.toNat (spot_lt hj) hb hin t
end
section
variable {prog : Program} {w : World} {A : Around} {E : Value → Shared → Prop} {s : Shared} {env : Env} {h₀ : Heap} {L : Addr} {m : PySem.Str → Option Value} {news : List (Addr × Obj)}
theorem wpC_consS {st : Stmt} {rest : List Stmt} {Q : Flow → Shared → Prop} (_ : Fr h₀ L s.heap m) (_ : News h₀ L s.heap news)
    (h : wpAny (model prog w) A (exec st env) (fun fl s' => Stop (fl = .next ∧ ∃ h' tk', s' = { s with heap := h', toks := tk' } ∧ Fr h₀ L h' m ∧ News h₀ L h' news)) E s)
    (k : ∀ h' tk', Fr h₀ L h' m → News h₀ L h' news → wpC (model prog w) A (execs rest env) Q E { s with heap := h', toks := tk' }) : wpC (model prog w) A (execs (st :: rest) env) Q E s := by
  refine wpC_consA (wpAny_mono h (fun fl s' h' => ?_) fun _ _ e => e)
  obtain ⟨rfl, h₁, tk, rfl, F, N⟩ := h'
  exact k h₁ tk F N
end
end Mine
namespace Mine
def Words (vs : List Value) : Prop := ∀ v ∈ vs, ∃ wd t, v = .str wd t ∧ BadWord wd
theorem words4 {v : Int} {t1 t2 t3 t4 : Tok} (h0 : 0 ≤ v) (h1 : v < 5) : Words [.str (num (256 + v)) t1, .str (PySem.Str.ofString "-1") t2, .str (PySem.Str.ofString "x") t3, .str (PySem.Str.ofString "") t4] := by
  intro x hx
  simp only [List.mem_cons, List.mem_nil_iff, or_false] at hx
  rcases hx with rfl | rfl | rfl | rfl
  · exact ⟨_, _, rfl, bw_n (by omega) (by omega)⟩
  · exact ⟨_, _, rfl, bw_m⟩
  · exact ⟨_, _, rfl, bw_x⟩
  · exact ⟨_, _, rfl, bw_e⟩
def Knows (a b c : PySem.Str) (x y z : Value) (m : PySem.Str → Option Value) : Prop := m a = some x ∧ m b = some y ∧ m c = some z
theorem Knows.eq {a b c : PySem.Str} {x y z : Value} {m : PySem.Str → Option Value} (h : Knows a b c x y z m) : m = fun u => if u = a then some x else if u = b then some y else if u = c then some z else m u := by
  obtain ⟨h1, h2, h3⟩ := h
  funext u
  by_cases e1 : u = a
  · subst e1; rw [if_pos rfl]; exact h1
  · rw [if_neg e1]
    by_cases e2 : u = b
    · subst e2; rw [if_pos rfl]; exact h2
    · rw [if_neg e2]
      by_cases e3 : u = c
      · subst e3; rw [if_pos rfl]; exact h3
      · rw [if_neg e3]
end Mine
end
section
open PySem PySem.W PyProof.Rows PySem.Calls
set_option Elab.async false
set_option maxRecDepth 100000
namespace Mine
section
variable {prog : Program} {w : World} {A : Around} {E : Value → Shared → Prop} {s : Shared} {env : Env} {h₀ : Heap} {news : List (Addr × Obj)} {m : PySem.Str → Option Value}
theorem wpC_ForW {x : PySem.Str} {px pos : Pos} {iter : Expr} {body rest : List Stmt} {Q : Flow → Shared → Prop} {a b c : PySem.Str} {va vb vc : Value} (hh : A.handled = none) (hx : env.kindOf x = some .local)
    (hp : (env.scope.kind == .class || (env.scope.kind == .module && env.locals != env.globals)) = false) (P : List Value → Prop) (_ : Fr h₀ env.locals s.heap m) (_ : News h₀ env.locals s.heap news) (hJ : Knows a b c va vb vc m)
    (h : wpAny (model prog w) A (eval iter env) (fun xv s₁ => Stop (∃ (T : Addr) (vs : List Value) (h : Heap) (tk : Nat), s₁ = { s with heap := h, toks := tk } ∧ xv = .ref T ∧ P vs ∧ Fr h₀ env.locals s₁.heap m ∧ News h₀ env.locals s₁.heap ((T, tupO vs) :: news))) E s)
    (turn : ∀ (I T : Addr) (vs : List Value) (v : Value) (m₁ : PySem.Str → Option Value) (h : Heap) (tk : Nat) (o : Obj), P vs → v ∈ vs → Fr h₀ env.locals h (fun y => if y = x then some v else if y = a then some va else if y = b then some vb else if y = c then some vc else m₁ y) → News h₀ env.locals h ((I, o) :: (T, tupO vs) :: news) →
        wpC (model prog w) A (execs body env) (fun fl s' => fl = .next ∧ ∃ h' tk' m', s' = { s with heap := h', toks := tk' } ∧ Knows a b c va vb vc m' ∧ Fr h₀ env.locals h' m' ∧ News h₀ env.locals h' ((I, o) :: (T, tupO vs) :: news)) (fun _ _ => False) { s with heap := h, toks := tk })
    (done : ∀ m₁ h tk, Fr h₀ env.locals h m₁ → News h₀ env.locals h news → wpC (model prog w) A (execs rest env) Q E { s with heap := h, toks := tk })
    (hs : ∀ x, foldedSetIterable iter env x = pure x := by intro _; rfl) :
    wpC (model prog w) A (execs (.For (.Name x px) iter body [] pos :: rest) env) Q E s := by
  refine wpC_cons (wpC_ForT hh hx hp (Knows a b c va vb vc) P news (wpAny_mono h (fun xv s₁ h₁ => ?_) fun _ _ e => e) (fun I T vs v m₁ h tk o hP hv hJ F N => ?_) (fun m₁ h tk _ F N => done m₁ h tk F N) hs)
  · obtain ⟨T, vs, h, tk, e1, e2, hP, F, N⟩ := h₁
    exact ⟨T, vs, m, h, tk, e1, e2, hP, hJ, F, N⟩
  · have em := hJ.eq
    rw [em] at F
    exact turn I T vs v m₁ h tk o hP hv F N
end
end Mine
end
section
open PySem PySem.W PyProof.Rows PySem.Calls
set_option Elab.async false
set_option maxRecDepth 100000
set_option maxHeartbeats 4000000
namespace Mine
theorem isi_bytes {w : World} {A : Around} {E : Value → Shared → Prop} {s : Shared} {b : Array UInt8} {t : Tok} {Q : Value → Shared → Prop} {h₀ : Heap} {L : Addr} {m : PySem.Str → Option Value} (_ : Fr h₀ L s.heap m) (X : (hd.heap_39 w.params).In s.heap)
   (h : ∀ k, Q (.bool true) { s with toks := k }) : wpAny (model PR w) A (call (.builtin "isinstance") [.bytes b t, .type "bytes"]) Q E s := by
  k_dflt (
   refine kia_one (b := true) (K := hd.heap_39 w.params) kitx_bytes ?X trivial ?ee ?nb ?_
   (case X => exact X)
   (case ee => kit_is)
   (case nb => kit_nb)
   intro _
   exact h _)
end Mine
end
section
open PySem PySem.W PyProof.Rows PySem.Calls
set_option Elab.async false
set_option maxRecDepth 100000
set_option maxHeartbeats 20000000
set_option pp.deepTerms false
set_option pp.maxSteps 3000
namespace Mine
theorem off_NTF : True := by
  w_top off
  exact True.intro
local macro_rules | `(tactic| walk_at "call ref") => `(tactic| (k_here; (with_reducible show wpAny _ _ (call (Value.ref 185) [Value.int _ _]) _ _ _); k_dflt (refine' parts_ok _ _ _  _ _ _ _ _ _ _ _ _ _ _ _ _ _ _ _ _ ?k1 ?k2 ?k3 ?k4 ?k5 ?k6 ?k7 ?k8 ?_; (case k1 => k_asm); (case k2 => k_asm); (case k3 => k_asm); (case k4 => k_asm); (case k5 => k_asm); (case k6 => rfl); (case k7 => ktr_room); (case k8 => ktr_units)); intro Dp' a' b' c' d' t1' t2' t3' t4' h' tk' hin' F' N' l1; (try k_lt l1); obtain ⟨ha', hb', hc', hd'⟩ := in4 hin'; (have hdl' := dots_len hin')))
local macro_rules | `(tactic| walk_at "call ref") => `(tactic| (k_here; (with_reducible show wpAny _ _ (call (Value.ref 190) [Value.ref _]) _ _ _); k_dflt (refine' law_dots _ _ _ _ _ _ _ _ _ _ ?c0 ?c1 _ _ _ _ _ _ _ _ _ _ _ _ _ _ _ _ _ ?k1 ?k2 ?k3 ?k4 ?k5 ?k6 ?k7 ?k8 ?_; (case k1 => k_asm); (case k2 => k_asm); (case k3 => k_asm); (case k4 => k_asm); (case k5 => k_asm); (case k6 => rfl); (case k7 => ktr_room); (case k8 => ktr_units); (case c1 => k_mem); (case c0 => assumption)); intro _ _ _ F' N'))
local macro_rules | `(tactic| walk_at "call ref") => `(tactic| (k_here; (with_reducible show wpAny _ _ (call (Value.ref 195) [Value.ref _]) _ _ _); k_dflt (refine' law_padded _ _ _ _ _ _ _ _ _ _ ?c0 ?c1 _ _ _ _ _ _ _ _ _ _ _ _ _ _ _ _ _ ?k1 ?k2 ?k3 ?k4 ?k5 ?k6 ?k7 ?k8 ?_; (case k1 => k_asm); (case k2 => k_asm); (case k3 => k_asm); (case k4 => k_asm); (case k5 => k_asm); (case k6 => rfl); (case k7 => ktr_room); (case k8 => ktr_units); (case c1 => k_mem); (case c0 => assumption)); intro _ _ _ F' N'))
local macro_rules | `(tactic| walk_at "call ref") => `(tactic| (k_here; (with_reducible show wpAny _ _ (call (Value.ref 171) [Value.ref _]) _ _ _); k_dflt (refine' pack_dots _ _ _ _ _ _ _ _ _ _ _ ?c0 ?c1 ?c2 ?c3 _ _ _ _ _ _ _ _ _ _ _ _ _ _ _ _ _ ?k1 ?k2 ?k3 ?k4 ?k5 ?k6 ?k7 ?k8 ?_; (case k1 => k_asm); (case k2 => k_asm); (case k3 => k_asm); (case k4 => k_asm); (case k5 => k_asm); (case k6 => rfl); (case k7 => ktr_room); (case k8 => ktr_units); (case c0 => with_reducible_and_instances k_mem); (case c1 => assumption); (case c2 => assumption); (case c3 => assumption)); intro _ _ _ F' N'))
local macro_rules | `(tactic| walk_at "call ref") => `(tactic| (k_here; (with_reducible show wpAny _ _ (call (Value.ref 171) [Value.ref _]) _ _ _); k_dflt (refine' pack_padd _ _ _ _ _ _ _ _ _ _ _ ?c0 ?c1 ?c2 ?c3 _ _ _ _ _ _ _ _ _ _ _ _ _ _ _ _ _ ?k1 ?k2 ?k3 ?k4 ?k5 ?k6 ?k7 ?k8 ?_; (case k1 => k_asm); (case k2 => k_asm); (case k3 => k_asm); (case k4 => k_asm); (case k5 => k_asm); (case k6 => rfl); (case k7 => ktr_room); (case k8 => ktr_units); (case c0 => with_reducible_and_instances k_mem); (case c1 => assumption); (case c2 => assumption); (case c3 => assumption)); intro _ _ _ F' N'))
local macro_rules | `(tactic| walk_at "call ref") => `(tactic| (k_here; (with_reducible show wpAny _ _ (call (Value.ref 57) [Value.str (dots _ _ _ _) _]) _ _ _); k_dflt (refine' aton_dots _ _ _ _ _ _ ?c0 _ _ _ _ _ _ _ _ _ _ _ _ _ _ _ _ _ ?k1 ?k2 ?k3 ?k4 ?k5 ?k6 ?k7 ?k8 ?_; (case k1 => k_asm); (case k2 => k_asm); (case k3 => k_asm); (case k4 => k_asm); (case k5 => k_asm); (case k6 => rfl); (case k7 => ktr_room); (case k8 => ktr_units); (case c0 => assumption)); intro _ _ _ F' N'))
local macro_rules | `(tactic| walk_at "call ref") => `(tactic| (k_here; (with_reducible show wpAny _ _ (call (Value.ref 57) [Value.str (padd _ _ _ _) _]) _ _ _); k_dflt (refine' aton_padd _ _ _ _ _ _ ?c0 _ _ _ _ _ _ _ _ _ _ _ _ _ _ _ _ _ ?k1 ?k2 ?k3 ?k4 ?k5 ?k6 ?k7 ?k8 ?_; (case k1 => k_asm); (case k2 => k_asm); (case k3 => k_asm); (case k4 => k_asm); (case k5 => k_asm); (case k6 => rfl); (case k7 => ktr_room); (case k8 => ktr_units); (case c0 => assumption)); intro _ _ _ F' N'))
local macro_rules | `(tactic| walk_at "call ref") => `(tactic| (k_here; (with_reducible show wpAny _ _ (call (Value.ref 62) [Value.bytes _ _]) _ _ _); k_dflt (refine' ntoa_bytes _ _ _ _ _ _ _ ?c0 _ _ _ _ _ _ _ _ _ _ _ _ _ _ _ _ _ ?k1 ?k2 ?k3 ?k4 ?k5 ?k6 ?k7 ?k8 ?_; (case k1 => k_asm); (case k2 => k_asm); (case k3 => k_asm); (case k4 => k_asm); (case k5 => k_asm); (case k6 => rfl); (case k7 => ktr_room); (case k8 => ktr_units); (case c0 => (with_reducible (refine KBa.ints_make ?_; assumption)))); intro _ _ _ F' N'))
local macro_rules | `(tactic| walk_at "call ref") => `(tactic| (k_here; (with_reducible show wpAny _ _ (call (Value.ref 178) [Value.bytes (byteArr [_, _, _, _] ++ byteArr [_, _]) _]) _ _ _); k_dflt (refine' unpack_N5 _ _ _ _ _ _ _ _ _ ?c0 _ _ _ _ _ _ _ _ _ _ _ _ _ _ _ _ _ ?k1 ?k2 ?k3 ?k4 ?k5 ?k6 ?k7 ?k8 ?_; (case k1 => k_asm); (case k2 => k_asm); (case k3 => k_asm); (case k4 => k_asm); (case k5 => k_asm); (case k6 => rfl); (case k7 => ktr_room); (case k8 => ktr_units); (case c0 => (with_reducible (refine ints6 ?_ ?_ <;> assumption)))); intro Dp' t1' t2' h' tk' F' N' l1; (try k_lt l1)))
local macro_rules | `(tactic| walk_at "call ref") => `(tactic| (k_here; (with_reducible show wpAny _ _ (call (Value.ref 178) [Value.bytes (byteArr _ ++ byteArr _ ++ byteArr _) _]) _ _ _); k_dflt (refine' unpack_N6 _ _ _ _ _ _ _ _ _ _ ?c0 _ _ _ _ _ _ _ _ _ _ _ _ _ _ _ _ _ ?k1 ?k2 ?k3 ?k4 ?k5 ?k6 ?k7 ?k8 ?_; (case k1 => k_asm); (case k2 => k_asm); (case k3 => k_asm); (case k4 => k_asm); (case k5 => k_asm); (case k6 => rfl); (case k7 => ktr_room); (case k8 => ktr_units); (case c0 => (with_reducible (refine ints7 ?_ ?_ ?_ <;> assumption)))); intro Dp' t1' t2' h' tk' F' N' l1; (try k_lt l1)))
local macro_rules | `(tactic| walk_at "call ref") => `(tactic| (k_here; (with_reducible show wpAny _ _ (call (Value.ref 160) [Value.ref _]) _ _ _); k_dflt (refine' addr_pair _ _ _ _ _ _ _ _ _ _ ?c0 ?c1 ?c2 ?c3 ?c4 _ _ _ _ _ _ _ _ _ _ _ _ _ _ _ _ _ ?k1 ?k2 ?k3 ?k4 ?k5 ?k6 ?k7 ?k8 ?_; (case k1 => k_asm); (case k2 => k_asm); (case k3 => k_asm); (case k4 => k_asm); (case k5 => k_asm); (case k6 => rfl); (case k7 => ktr_room); (case k8 => ktr_units); (case c4 => with_reducible_and_instances k_mem); (case c0 => assumption); (case c1 => assumption); (case c2 => assumption); (case c3 => assumption)); intro ap' dx' T' es' n' bb' t1' t2' t3' t4' t5' h' tk' F' N' l1 l2 l3 hbb' g1' g2' g3' g4'; (try k_lt l1)))
local macro_rules | `(tactic| walk_at "call ref") => `(tactic| (k_here; (with_reducible show wpAny _ _ (call (Value.ref 160) [Value.bytes _ _]) _ _ _); k_dflt (refine' addr_six _ _ _ _ _ _ _ _ _ ?c0 _ _ _ _ _ _ _ _ _ _ _ _ _ _ _ _ _ ?k1 ?k2 ?k3 ?k4 ?k5 ?k6 ?k7 ?k8 ?_; (case k1 => k_asm); (case k2 => k_asm); (case k3 => k_asm); (case k4 => k_asm); (case k5 => k_asm); (case k6 => rfl); (case k7 => ktr_room); (case k8 => ktr_units); (case c0 => (with_reducible (refine ints6 ?_ ?_ <;> assumption))); skip); intro ap' dx' T' es' n' bb' t1' t2' t3' t4' t5' h' tk' F' N' l1 l2 l3 hbb' g1' g2' g3' g4'; (try k_lt l1)))
local macro_rules | `(tactic| walk_at "call ref") => `(tactic| (k_here; (with_reducible show wpAny _ _ (call (Value.ref 62) [Value.ref _]) _ _ _); k_dflt (refine' ntoa_ba _ _ _ _ _ _ _ ?c0 ?c1 _ _ _ _ _ _ _ _ _ _ _ _ _ _ _ _ _ ?k1 ?k2 ?k3 ?k4 ?k5 ?k6 ?k7 ?k8 ?_; (case k1 => k_asm); (case k2 => k_asm); (case k3 => k_asm); (case k4 => k_asm); (case k5 => k_asm); (case k6 => rfl); (case k7 => ktr_room); (case k8 => ktr_units); (case c1 => k_mem); (case c0 => (with_reducible (refine KBa.ints_make ?_; assumption)))); intro _ _ _ F' N'))
local macro_rules | `(tactic| walk_at "call ref") => `(tactic| (k_here; (with_reducible show wpAny _ _ (call (Value.ref 178) [Value.ref _]) _ _ _); k_dflt (refine' unpack_ba _ _ _ _ _ _ _ _ _ ?c0 ?c1 _ _ _ _ _ _ _ _ _ _ _ _ _ _ _ _ _ ?k1 ?k2 ?k3 ?k4 ?k5 ?k6 ?k7 ?k8 ?_; (case k1 => k_asm); (case k2 => k_asm); (case k3 => k_asm); (case k4 => k_asm); (case k5 => k_asm); (case k6 => rfl); (case k7 => ktr_room); (case k8 => ktr_units); (case c1 => k_mem); (case c0 => (with_reducible (refine ints6 ?_ ?_ <;> assumption)))); intro Dp' t1' t2' h' tk' F' N' l1; (try k_lt l1)))
local macro_rules | `(tactic| walk_at "binaryOp Mod int int") => `(tactic| (k_here; refine mod_known (by decide) (by assumption) ?_; intro _ _))
local macro_rules | `(tactic| walk_at "binaryOp FloorDiv int int") => `(tactic| (k_here; refine div_known (by decide) (by assumption) (PyProof.noPylong_of_log2 (by decide +kernel)) ?_; intro _ _))
local macro_rules | `(tactic| walk_at "compareOp NotEq bytes bytes") => `(tactic| (k_here; k_dflt (refine ne_bytes_same (by first | exact byte_app | exact byte_app.symm | exact rfl) ?_)))
local macro_rules | `(tactic| walk_at "compareOp NotEq str str") => `(tactic| (k_here; k_dflt (refine ne_str_same (by with_reducible_and_instances rfl) ?_)))
local macro_rules | `(tactic| walk_at "compareOp NotEq ref ref") => `(tactic| (k_here; refine' ne_pair ?kF ?kT ?kU ?ku ?_; (case kF => k_asm); (case kT => with_reducible_and_instances k_mem); (case kU => with_reducible_and_instances k_mem); (case ku => ktr_units)))
local macro_rules | `(tactic| walk_at "compareOp NotEq ref ref") => `(tactic| (k_here; refine' ne_four ?kF ?kD ?kE ?kT ?kU ?ke ?ku ?_; (case kF => k_asm); (case kD => with_reducible_and_instances k_mem); (case kE => with_reducible_and_instances k_mem); (case kT => with_reducible_and_instances k_mem); (case kU => with_reducible_and_instances k_mem); (case ke => (with_reducible exact six_same (by assumption) (by assumption) (by assumption))); (case ku => ktr_units)))
local macro_rules | `(tactic| k_get) => `(tactic| assumption)
local macro_rules | `(tactic| walk_at "exec If") => `(tactic| refine wpAny_If ?_)
local macro_rules | `(tactic| walk_at "getAttr ref") => `(tactic| (k_here; k_dflt (refine' get_own ?k1 ?k2 ?k3 ?k4 ?k5 ?k6 ?k7 ?k8 ?k9 ?_; (case k1 => k_asm); (case k2 => k_asm); (case k3 => k_inst); (case k4 => k_is); (case k5 => k_is); (case k6 => k_is); (case k7 => k_is); (case k8 => k_get); (case k9 => k_handed); k_whole)))
local macro_rules | `(tactic| walk_at "eval Name") => `(tactic| (k_here; name_kind "globalImplicit"; k_dflt (first | (refine' nameX_K ?F ?X ?T ?e ?_ ?a ?b; (case F => k_asm); (case X => k_asm); (case T => k_asm); (case a => rfl); (case b => kernel_rfl); (case e => k_is); k_whole) | (refine' nameX_B ?F ?X ?T ?e ?v ?n ?_ ?a ?b; (case F => k_asm); (case X => k_asm); (case T => k_asm); (case a => rfl); (case b => kernel_rfl); (case e => k_is); (case v => boot_fast); (case n => decide); k_whole))))
local macro_rules | `(tactic| walk_at "eval Name") => `(tactic| (k_here; name_kind "local"; k_dflt (refine' nameX_L ?F ?v ?_ ?a ?b; (case F => k_asm); (case a => rfl); (case b => kernel_rfl); (case v => rfl); k_whole)))
local macro_rules | `(tactic| walk_at "eval Name") => `(tactic| (k_here; (with_reducible show wpAny _ _ (eval (Expr.Name (PySem.Str.ofString "bytearray") _) _) _ _ _); k_dflt (refine' nameX_B ?F ?X ?T ?e ?v ?n ?_ ?a ?b; (case F => k_asm); (case X => k_asm); (case T => k_asm); (case a => rfl); (case b => kernel_rfl); (case e => k_is); (case v => boot_by_name); (case n => decide); k_whole)))
local macro_rules | `(tactic| walk_at "call builtin:isinstance") => `(tactic| (k_here; (with_reducible show wpAny _ _ (call _ [Value.bytes _ _, Value.type "bytes"]) _ _ _); k_dflt (refine' isi_bytes ?F ?X ?_; (case F => k_asm); (case X => k_in)); intro _))
local macro_rules | `(tactic| walk_at "call ref") => `(tactic| (k_here; (with_reducible show wpAny _ _ (call (Value.ref 200) [Value.ref _, Value.int _ _, Value.str _ _]) _ _ _); k_dflt (refine' with_int _ _ _ _ _ _ _ _ _ _ _ _ _ _ ?c3 ?c0 ?c1 ?c2 _ _ _ _ _ _ _ _ _ _ _ _ _ _ _ _ _ ?k1 ?k2 ?k3 ?k4 ?k5 ?k6 ?k7 ?k8 ?_; (case k1 => k_asm); (case k2 => k_asm); (case k3 => k_asm); (case k4 => k_asm); (case k5 => k_asm); (case k6 => rfl); (case k7 => ktr_room); (case k8 => ktr_units); (case c2 => k_mem); (case c3 => assumption); (case c0 => first | assumption | decide +kernel); (case c1 => assumption)); intro _ _ _ F' N'))
local macro_rules | `(tactic| walk_at "call ref") => `(tactic| (k_here; (with_reducible show wpAny _ _ (call (Value.ref 57) [Value.str (WDS _ _ _ _ _ _) _]) _ _ _); k_dflt (refine' aton_top _ _ _ _ _ _ _ ?c0 ?c1 _ _ _ _ _ _ _ _ _ _ _ _ _ _ _ _ _ ?k1 ?k2 ?k3 ?k4 ?k5 ?k6 ?k7 ?k8 ?_; (case k1 => k_asm); (case k2 => k_asm); (case k3 => k_asm); (case k4 => k_asm); (case k5 => k_asm); (case k6 => rfl); (case k7 => ktr_room); (case k8 => ktr_units); (case c0 => assumption); (case c1 => assumption)); intro _ _ _ F' N'))
theorem law_holds : PySem.Challenge.rw_fb5002_01.Holds := by
  refine hd ?_
  k_fill
  intro w s₀ s₁ mg mb G Y fa o pm cd doc dV kV ho hd hcd hD hmg hg args vals as hpre hlay hrd hwl hlo
  have KX := kIn_of Y
  have X := (Ground.X G).1
  have V := (Ground.X G).2
  refine Ground.open G ?_
  intro T B D TE TW
  wrow_args hpre hlay hrd hwl hlo
  have e1 : dV = .none := Dflts.pos_none hD rfl
  have e2 : kV = .none := Dflts.kw_none hD rfl
  subst e1 e2
  refine wpC_call ?_
  dsimp only [docDef] at hd hcd
  have hd' : o.data = .func (docDef _ _ _ _ _ cd doc) := hd
  k_dflt (refine law_call (by decide) ho hd' (Top.nolimit T) hcd rfl (locs rfl) ?_ rfl rfl rfl (by decide))
  clear hd hd' hcd hD hmg
  intro h₁ F
  try dsimp only [docDef] at F
  have K0 : Below callerA s₁.heap [] s₁.heap := below_caller s₁.heap
  have NN : News s₁.heap s₁.heap.objs.size h₁ [] := fun p hp => nomatch hp
  k_dflt (refine wpC_cons (wpC_For2 (h₀ := s₁.heap) rfl rfl rfl ?it ?turn ?done))
  case it =>
    k_steps
    · exact Stop.mk ⟨_, _, _, _, _, _, _, rfl, rfl, .cons _ _ (.cons _ _ (.cons _ _ (.cons _ _ (.cons _ _ (.cons _ _ .nil))))), rfl, ⟨_, rfl⟩, by k_asm, fun p hp => (by assumption : News _ _ _ (_ :: _)) p (List.mem_cons.mpr (.inl (List.mem_singleton.mp hp)))⟩
    · exact Stop.mk ⟨_, _, _, _, _, _, _, rfl, rfl, by assumption, rfl, ⟨_, rfl⟩, by k_asm, fun p hp => (by assumption : News _ _ _ (_ :: _)) p (List.mem_cons.mpr (.inl (List.mem_singleton.mp hp)))⟩
  case done =>
    intro m₁ h tk F
    dsimp only
    k_dflt (refine wpC_consA ?_)
    k_steps
    dsimp only
    refine GoodW.toG ?_
    wrow_close
  case turn =>
    intro l ol I n t m₁ h tk o F N
    obtain ⟨p, hp⟩ : ∃ p, n % 65536 / 256 = p := ⟨_, rfl⟩
    obtain ⟨q, hq⟩ : ∃ q, n % 65536 % 256 = q := ⟨_, rfl⟩
    obtain ⟨r, hr⟩ : ∃ r, n.fmod 256 = r := ⟨_, rfl⟩
    have hpb : 0 ≤ p ∧ p < 256 := by omega
    have hqb : 0 ≤ q ∧ q < 256 := by omega
    have hrb : 0 ≤ r ∧ r < 256 := by rw [← hr]; exact ⟨fmod_lo _ (by decide), fmod_hi _ (by decide)⟩
    have hlow : n.fmod 65536 = p * 256 + q := by rw [Int.fmod_eq_emod_of_nonneg _ (by decide)]; omega
    have hlp : (p * 256 + q).fdiv 256 = p := by rw [Int.fdiv_eq_ediv_of_nonneg _ (by decide)]; omega
    have hlq : (p * 256 + q).fmod 256 = q := by rw [Int.fmod_eq_emod_of_nonneg _ (by decide)]; omega
    have hpq : KBa.In [p, q] := by intro k hk; simp only [List.mem_cons, List.mem_nil_iff, or_false] at hk; rcases hk with rfl | rfl <;> assumption
    have hri : KBa.In [r] := by intro k hk; simp only [List.mem_cons, List.mem_nil_iff, or_false] at hk; rcases hk with rfl; assumption
    iterate 6 (k_dflt (refine wpC_consA ?_); k_steps)
    iterate 3 (k_dflt (refine wpC_consA ?_); k_steps)
    iterate 1 (k_dflt (refine wpC_consA ?_); k_steps)
    k_dflt (refine wpC_cons (wpC_If (wpC_boolOr (wpC_or (wpC_stop ?_)))))
    k_steps
    refine Stop.mk ?_
    simp only [Bool.false_eq_true, if_false]
    k_dflt (refine wpC_or (wpC_ne2 rfl (wpC_evalCall1 rfl ?_)))
    walk1
    k_dflt (refine wpC_evalCall1 rfl ?_)
    walk1
    refine wpC_any ?_
    walk1
    refine ⟨⟨.machine, Looks.of_pure rfl, .inr rfl⟩, ?_⟩
    refine call_bytearray (by k_asm) (by k_asm) (by rw [byteArr_size, sizeLine_eq]; simp) ?_
    intro Db hb kb F' N' l1
    try k_lt l1
    refine ⟨keep_f (K := hd.heap_39 w.params) (by k_is) (by k_in), ?_⟩
    refine wpC_stop ?_
    k_steps
    refine Stop.mk ?_
    dsimp only
    k_steps
    try simp only [Bool.false_eq_true, if_false]
    k_dflt (refine wpC_of_eq (a := false) rfl ?_)
    simp only [Bool.false_eq_true, if_false]
    k_dflt (refine wpC_nil ?_)
    dsimp only
    iterate 1 (k_dflt (refine wpC_consA ?_); k_steps)
    k_dflt (refine wpC_cons (wpC_If (wpC_boolOr (wpC_or (wpC_stop ?_)))))
    k_steps
    refine Stop.mk ?_
    simp only [Bool.false_eq_true, if_false]
    k_dflt (refine wpC_or (wpC_ne2 rfl (wpC_evalCall1 rfl ?_)))
    walk1
    k_dflt (refine wpC_evalCall1 rfl ?_)
    walk1
    refine wpC_any ?_
    walk1
    refine ⟨⟨.machine, Looks.of_pure rfl, .inr rfl⟩, ?_⟩
    refine call_bytearray (by k_asm) (by k_asm) (by rw [byte_app, byteArr_size, sizeLine_eq]; simp) ?_
    intro Db hb kb F' N' l1
    try k_lt l1
    refine ⟨keep_f (K := hd.heap_39 w.params) (by k_is) (by k_in), ?_⟩
    refine wpC_stop ?_
    k_steps
    refine Stop.mk ?_
    dsimp only
    k_steps
    k_dflt (refine wpC_or (wpC_stop ?_))
    k_steps
    refine Stop.mk ?_
    try simp only [Bool.false_eq_true, if_false]
    k_dflt (refine wpC_of_eq (a := false) rfl ?_)
    simp only [Bool.false_eq_true, if_false]
    k_dflt (refine wpC_nil ?_)
    dsimp only
    iterate 1 (k_dflt (refine wpC_consA ?_); k_steps)
    dsimp only
    rename Fr s₁.heap _ _ (fun y => if y = PySem.Str.ofString "number" then _ else _) => F2
    simp only [Int.reduceToNat, Int.toNat_zero, Int.toNat_one, List.getD_cons_zero, List.getD_cons_succ] at F2
    rename News s₁.heap _ _ (_ :: _ :: _ :: _ :: _ :: _ :: _) => N2
    have hin := (by assumption : KBa.In [_, _, _, _])
    have N3 := news_pick N2 [7, 12, 13, 14]
    simp only [List.filterMap_cons, List.filterMap_nil, List.getElem?_cons_succ, List.getElem?_cons_zero] at N3
    clear N2
    iterate 4 (k_dflt (refine wpC_consA ?_); k_steps)
    dsimp only
    rename News s₁.heap _ _ (_ :: _ :: _ :: _ :: _ :: _ :: _) => N2
    have N4 := news_pick N2 [13, 14, 15]
    simp only [List.filterMap_cons, List.filterMap_nil, List.getElem?_cons_succ, List.getElem?_cons_zero] at N4
    clear N2
    obtain ⟨j, hj, hk⟩ := spot_of n
    iterate 2 (k_dflt (refine wpC_consA ?_); k_steps)
    k_dflt (refine wpC_consS (by k_asm) (by k_asm) ?_ ?_)
    · rcases id hj with rfl | rfl | rfl | rfl
      all_goals
        k_steps
        refine Stop.mk ⟨rfl, _, _, rfl, by assumption, fun p hp => ?_⟩
        refine (by assumption : News _ _ _ (_ :: _ :: _ :: _ :: _)) p ?_
        repeat (first | with_reducible exact hp | apply List.mem_cons_of_mem)
    intro h' tk' F' N'
    obtain ⟨v, hv⟩ : ∃ v, n.fmod 5 = v := ⟨_, rfl⟩
    have hv5 := five_of n
    rw [hv] at hv5
    k_dflt (refine wpC_ForW (h₀ := s₁.heap) (a := PySem.Str.ofString "parts") (b := PySem.Str.ofString "at") (c := PySem.Str.ofString "n") rfl rfl rfl Words (by k_asm) (by k_asm) ⟨rfl, rfl, rfl⟩ ?it ?turn ?done)
    case it =>
      k_steps
      exact Stop.mk ⟨_, _, _, _, rfl, rfl, words4 hv5.1 hv5.2, by assumption, by assumption⟩
    case done =>
      intro m₁ h tk F N
      k_dflt (refine wpC_nil ?_)
      exact ⟨rfl, _, _, _, rfl, F, fun p hp => N p (.tail _ hp)⟩
    case turn =>
      intro I' T' vs v m₁ h tk o' hP hv F N
      clear F' N'
      obtain ⟨wd, tw, rfl, hb⟩ := hP v hv
      have hsh := hb.short
      dsimp only
      k_dflt (refine wpC_consA ?_); k_steps
      k_dflt (refine wpC_cons (wpC_If (wpC_boolOr (wpC_or (wpC_Not (wpC_testCall (wpC_evalCall1 rfl ?_)))))))
      walk1
      refine wpC_any ?_
      walk1
      refine ⟨keep_f (K := hd.heap_39 w.params) (by k_is) (by k_in), ?_⟩
      k_dflt (refine' read_word _ _ _ _ _ _ _ ?c0 ?c1 ?c2 _ _ _ _ _ _ _ _ _ _ _ _ _ _ _ _ ?k1 ?k2 ?k3 ?k4 ?k5 ?kX ?kT ?k6 ?k7 ?k8 ?_)
      case k1 => k_asm
      case k2 => k_asm
      case k3 => k_asm
      case k4 => k_asm
      case k5 => k_asm
      case kX => assumption
      case kT => assumption
      case k6 => rfl
      case k7 => ktr_room
      case k8 => ktr_units
      case c0 => exact hj
      case c1 => exact hb
      case c2 => exact hin
      intro _ hr tkr F' N'
      dsimp only
      refine wpA_stop ?_
      k_steps
      refine Stop.mk ?_
      simp only [Bool.not_true, Bool.false_eq_true, if_false]
      k_dflt (refine wpC_or (wpC_Not (wpC_testCall (wpC_evalCall2 rfl ?_))))
      walk1
      refine wpC_any ?_
      walk1
      refine wpC_any ?_
      walk1
      refine ⟨keep_f (K := hd.heap_39 w.params) (by k_is) (by k_in), ?_⟩
      k_dflt (refine' pack_word _ _ _ _ _ _ _ ?c0 ?c1 ?c2 _ _ _ _ _ _ _ _ _ _ _ _ _ _ _ _ _ _ ?k1 ?k2 ?k3 ?k4 ?k5 ?kX ?kT ?k6 ?k7 ?k8 ?_)
      case k1 => k_asm
      case k2 => k_asm
      case k3 => k_asm
      case k4 => k_asm
      case k5 => k_asm
      case kX => assumption
      case kT => assumption
      case k6 => rfl
      case k7 => ktr_room
      case k8 => ktr_units
      case c0 => exact hj
      case c1 => exact hb
      case c2 => exact hin
      intro _ hr tkr F' N'
      dsimp only
      refine wpA_stop ?_
      k_steps
      refine Stop.mk ?_
      simp only [Bool.not_true, Bool.false_eq_true, if_false]
      k_dflt (refine wpC_of_eq (a := false) rfl ?_)
      simp only [Bool.false_eq_true, if_false]
      k_dflt (refine wpC_nil ?_)
      dsimp only
      k_dflt (refine wpC_nil ?_)
      exact ⟨rfl, _, _, _, rfl, ⟨rfl, rfl, rfl⟩, by assumption, by assumption⟩
end Mine
end
theorem PySem.Challenge.cw_fb5002_01_holds : PySem.Challenge.rw_fb5002_01.Holds := by
  exact Mine.law_holds
