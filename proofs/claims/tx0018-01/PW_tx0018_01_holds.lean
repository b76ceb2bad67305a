import PyProof.Rows.All
import PyProof.AttrMissHeap
import PyProof.StrLawsLines
import Wide.All
import OpenK.AllK
import Wide.FinOn
import PySem.Challenge.RW_tx0018_01
open PySem PySem.W PyProof.Rows
set_option Elab.async false
set_option maxRecDepth 100000
set_option linter.all false
/-! ## N1 -/
noncomputable section
set_option maxHeartbeats 0
open PySem PySem.W PyProof.Rows PySem.Calls
namespace MineN
abbrev pr : Program := PySem.Challenge.rw_tx0018_01.row.prog
def bd : List Stmt := behindTheImports pr
def L (i n : Nat) : List Stmt := (bd.drop i).take n
theorem bd_cut (i n : Nat) : bd.drop i = L i n ++ bd.drop (i + n) := by unfold L; rw [← List.drop_drop, List.take_append_drop]
def st (i : Nat) : Stmt := bd.getD i (.Pass ⟨0, 0, 0, 0⟩)
def envM : Env := { scope := pr.main.scope, locals := mainNs, globals := mainNs, cells := [], code := .ref 13, frame := some 14 }
def cM : Code := .body bd envM
def q0 : Pos := ⟨0, 0, 0, 0⟩
def fb (i : Nat) : FuncBody := match st i with | .FunctionDef _ _ b _ _ _ _ _ _ _ => .stmts b | _ => .stmts []
def fp (i : Nat) : Arguments := match st i with | .FunctionDef _ a _ _ _ _ _ _ _ _ => a | _ => .mk [] [] none [] [] none []
def fs (i : Nat) : Scope := match st i with | .FunctionDef _ _ _ _ _ _ s _ _ _ => s | _ => pr.main.scope
abbrev n1 (o : Obj) : BT := .node o .nil .nil
def ent (P : Params) (k : Str) (t : Tok) (v : Value) : DictEntry := { hash := PyData.keyHash P k, key := .str k t, val := v }
def base (P : Params) : List DictEntry := match (boot_o_3 P).data with | .dict es _ => es.toList | _ => []
def nsO (P : Params) (nm : Value) (l : List DictEntry) (n : Nat) : Obj := { cls := .type "dict", data := .dict ⟨(ent P "__name__" 165 nm :: (base P).tail) ++ l⟩ n }
def vM : Value := .str "__main__" 164
def vQ : Value := .str "cpy313.email.quoprimime" 1229
def l2 (P : Params) : List DictEntry := [ent P "CRLF" 188 (.str ⟨#[13, 10]⟩ 187), ent P "NL" 190 (.str ⟨#[10]⟩ 189)]
def l3 (P : Params) : List DictEntry := l2 P ++ [ent P "_QUOPRI_MAP" 1218 (.ref 17)]
def l9 (P : Params) : List DictEntry := l3 P ++ [ent P "_QUOPRI_HEADER_MAP" 1219 (.ref 22), ent P "_QUOPRI_BODY_MAP" 1220 (.ref 24), ent P "ascii_lowercase" 1222 (.str "abcdefghijklmnopqrstuvwxyz" 1221),
  ent P "ascii_uppercase" 1224 (.str "ABCDEFGHIJKLMNOPQRSTUVWXYZ" 1223), ent P "ascii_letters" 1226 (.str "abcdefghijklmnopqrstuvwxyzABCDEFGHIJKLMNOPQRSTUVWXYZ" 1225), ent P "digits" 1228 (.str "0123456789" 1227)]
def l10 (P : Params) (c : Nat) (t : Tok) : List DictEntry := l9 P ++ [ent P "c" 1239 (.int (.ofNat c) t)]
def hx (d : Nat) : Nat := match Nat.ble 10 d with | true => 55 + d | false => 48 + d
def tx (i : Nat) : Value := .str ⟨#[61, hx (i / 16), hx (i % 16)]⟩ (197 + 4 * i)
def txs (i : Nat) : List Value := (List.range i).map tx
def put (t : Nat) : List Nat → List Value → List Value
  | [], l => l
  | b :: r, l => put (t + 3) r (l.set b (.str ⟨#[b]⟩ t))
def lst (l : List Value) (n : Nat) : Obj := { cls := .type "list", data := .seq ⟨l⟩ n }
def b1 : List Nat := [45, 33, 42, 43, 47] ++ (List.range 26).map (97 + ·) ++ (List.range 26).map (65 + ·) ++ (List.range 10).map (48 + ·)
def b2 : List Nat := (List.range 29).map (32 + ·) ++ (List.range 65).map (62 + ·) ++ [9]
def x22 (i : Nat) : List Value := put 1240 (b1.take i) (txs 256)
def x24 (i : Nat) : List Value := put 1445 (b2.take i) (txs 256)
def bIt (l : List Nat) (t i : Nat) : Obj := { cls := .type "bytes_iterator", data := .fields #[.bytes ⟨l.map UInt8.ofNat⟩ t, .int (.ofNat i) 0] }

def o11 : Obj := Obj.mk (Value.type "tuple") none (Data.seq #[]) #[]
def o13 : Obj := Obj.mk (Value.type "code") none (Data.fields #[Value.str (Str.ofString "<module>") 182, Value.str (Str.ofString "<module>") 183, Value.str (Str.ofString "/claim/cut.py") 184, Value.int 1 0, Value.int 0 0, Value.int 0 0, Value.int 0 0, Value.int 0 0, Value.ref 11, Value.bool false, Value.int 181 0, Value.ref 12, Value.none, Value.none, Value.none, Value.none, Value.int 185 0, Value.int 1 0, Value.str (Str.ofString "/claim/cut.py") 186]) #[]
def o14 : Obj := Obj.mk (Value.type "frame") none Data.plain #[some (Value.ref 13), some (Value.ref 3), some (Value.ref 3), none, some (Value.str (Str.ofString "__main__") 164), none, some (Value.ref 0)]
def o15 : Obj := Obj.mk (Value.type "range") none (Data.fields #[Value.int 0 192, Value.int 256 191, Value.int 1 193]) #[]
def o19 : Obj := Obj.mk (Value.type "tuple") none (Data.seq #[]) #[]
def o20 : Obj := Obj.mk (Value.type "StopIteration") none (Data.fields #[Value.ref 19, Value.none, Value.none, Value.none, Value.bool false, Value.none]) #[]
def o21 : Obj := Obj.mk (Value.type "slice") none (Data.fields #[Value.none, Value.none, Value.none]) #[]
def o23 : Obj := Obj.mk (Value.type "slice") none (Data.fields #[Value.none, Value.none, Value.none]) #[]
def o25 : Obj := Obj.mk (Value.type "bytes_iterator") none (Data.fields #[Value.none, Value.int 67 0]) #[]
def o26 : Obj := Obj.mk (Value.type "tuple") none (Data.seq #[]) #[]
def o27 : Obj := Obj.mk (Value.type "StopIteration") none (Data.fields #[Value.ref 26, Value.none, Value.none, Value.none, Value.bool false, Value.none]) #[]
def o28 : Obj := Obj.mk (Value.type "bytes_iterator") none (Data.fields #[Value.none, Value.int 95 0]) #[]
def o29 : Obj := Obj.mk (Value.type "tuple") none (Data.seq #[]) #[]
def o30 : Obj := Obj.mk (Value.type "StopIteration") none (Data.fields #[Value.ref 29, Value.none, Value.none, Value.none, Value.bool false, Value.none]) #[]
def o12z : Obj := { cls := .none, data := .fields #[] }
def o16 (i : Nat) : Obj := { cls := .type "range_iterator", data := .fields #[.int (.ofNat i) 0, .int (.ofNat (256 - i)) 0, .int 1 0] }
def o18 (P : Params) : Nat → Obj
  | 0 => { cls := .type "dict", data := .dict #[] }
  | j + 1 => { cls := .type "dict", data := .dict ⟨[ent P "c" 195 (.int (.ofNat j) (194 + 4 * j))]⟩ 1 }
def o18f : Obj := { cls := .type "dict", data := .dict #[] 2 }
def ns10 (P : Params) : Nat → Obj
  | 0 => nsO P vQ (l9 P) 18
  | j + 1 => nsO P vQ (l10 P (b1.getD j 0) (1238 + 3 * j)) 19
def ns12 (P : Params) : Nat → Obj
  | 0 => nsO P vQ (l10 P 57 1436) 19
  | j + 1 => nsO P vQ (l10 P (b2.getD j 0) (1443 + 3 * j)) 19
def tZ (P : Params) : BT := (.node (boot_o_0 P) (.node (boot_o_1 P) (.node (boot_o_3 P) (n1 (boot_o_7 P)) (n1 o11)) (.node (boot_o_5 P) (n1 (boot_o_9 P)) (n1 o13))) (.node (boot_o_2 P) (.node (boot_o_4 P) (n1 (boot_o_8 P)) (n1 o12z)) (.node (boot_o_6 P) (n1 (boot_o_10 P)) (n1 o14))))
def SZ (P : Params) (os : OsState) : SharedT := ⟨tZ P, 15, {}, #[], {}, 187, os⟩
def tA (P : Params) : BT := (.node (boot_o_0 P) (.node (boot_o_1 P) (.node (nsO P vM (l2 P) 11) (n1 (boot_o_7 P)) (n1 o11)) (.node (boot_o_5 P) (n1 (boot_o_9 P)) (n1 o13))) (.node (boot_o_2 P) (.node (boot_o_4 P) (n1 (boot_o_8 P)) (n1 o12z)) (.node (boot_o_6 P) (n1 (boot_o_10 P)) (n1 o14))))
def SA (P : Params) (os : OsState) : SharedT := ⟨tA P, 15, {}, #[], {}, 191, os⟩
def tC (P : Params) (i : Nat) : BT := (.node (boot_o_0 P) (.node (boot_o_1 P) (.node (nsO P vM (l2 P) 11) (.node (boot_o_7 P) (n1 o15) .nil) (n1 o11)) (.node (boot_o_5 P) (.node (boot_o_9 P) (n1 (lst (txs i) i)) .nil) (n1 o13))) (.node (boot_o_2 P) (.node (boot_o_4 P) (.node (boot_o_8 P) (n1 (o16 i)) .nil) (n1 o12z)) (.node (boot_o_6 P) (.node (boot_o_10 P) (n1 (o18 P i)) .nil) (n1 o14))))
def SC (P : Params) (i : Nat) (os : OsState) : SharedT := ⟨tC P i, 19, {}, #[], {}, 194 + 4 * i, os⟩
def tB (P : Params) : BT := (.node (boot_o_0 P) (.node (boot_o_1 P) (.node (nsO P vM (l3 P) 12) (.node (boot_o_7 P) (n1 o15) .nil) (.node o11 (n1 o19) .nil)) (.node (boot_o_5 P) (.node (boot_o_9 P) (n1 (lst (txs 256) 256)) .nil) (n1 o13))) (.node (boot_o_2 P) (.node (boot_o_4 P) (.node (boot_o_8 P) (n1 (o16 256)) .nil) (.node o12z (n1 o20) .nil)) (.node (boot_o_6 P) (.node (boot_o_10 P) (n1 o18f) .nil) (n1 o14))))
def SB (P : Params) (os : OsState) : SharedT := ⟨tB P, 21, {}, #[], {}, 1219, os⟩
def tD (P : Params) : BT := (.node (boot_o_0 P) (.node (boot_o_1 P) (.node (nsO P vQ (l9 P) 18) (.node (boot_o_7 P) (n1 o15) (n1 o23)) (.node o11 (n1 o19) .nil)) (.node (boot_o_5 P) (.node (boot_o_9 P) (n1 (lst (txs 256) 256)) .nil) (.node o13 (n1 o21) .nil))) (.node (boot_o_2 P) (.node (boot_o_4 P) (.node (boot_o_8 P) (n1 (o16 256)) (n1 (lst (txs 256) 0))) (.node o12z (n1 o20) .nil)) (.node (boot_o_6 P) (.node (boot_o_10 P) (n1 o18f) .nil) (.node o14 (n1 (lst (txs 256) 0)) .nil))))
def SD (P : Params) (os : OsState) : SharedT := ⟨tD P, 25, {}, #[], {}, 1231, os⟩
def tE (P : Params) (i : Nat) : BT := (.node (boot_o_0 P) (.node (boot_o_1 P) (.node (ns10 P i) (.node (boot_o_7 P) (n1 o15) (n1 o23)) (.node o11 (n1 o19) .nil)) (.node (boot_o_5 P) (.node (boot_o_9 P) (n1 (lst (txs 256) 256)) (n1 (bIt b1 1237 i))) (.node o13 (n1 o21) .nil))) (.node (boot_o_2 P) (.node (boot_o_4 P) (.node (boot_o_8 P) (n1 (o16 256)) (n1 (lst (txs 256) 0))) (.node o12z (n1 o20) .nil)) (.node (boot_o_6 P) (.node (boot_o_10 P) (n1 o18f) .nil) (.node o14 (n1 (lst (x22 i) 0)) .nil))))
def SE (P : Params) (i : Nat) (os : OsState) : SharedT := ⟨tE P i, 26, {}, #[], {}, 1238 + 3 * i, os⟩
def tF (P : Params) : BT := (.node (boot_o_0 P) (.node (boot_o_1 P) (.node (nsO P vQ (l10 P 57 1436) 19) (.node (boot_o_7 P) (n1 o15) (n1 o23)) (.node o11 (n1 o19) (n1 o27))) (.node (boot_o_5 P) (.node (boot_o_9 P) (n1 (lst (txs 256) 256)) (n1 o25)) (.node o13 (n1 o21) .nil))) (.node (boot_o_2 P) (.node (boot_o_4 P) (.node (boot_o_8 P) (n1 (o16 256)) (n1 (lst (txs 256) 0))) (.node o12z (n1 o20) .nil)) (.node (boot_o_6 P) (.node (boot_o_10 P) (n1 o18f) (n1 o26)) (.node o14 (n1 (lst (x22 67) 0)) .nil))))
def SF (P : Params) (os : OsState) : SharedT := ⟨tF P, 28, {}, #[], {}, 1439, os⟩
def tG (P : Params) : BT := (.node (boot_o_0 P) (.node (boot_o_1 P) (.node (nsO P vQ (l10 P 57 1436) 19) (.node (boot_o_7 P) (n1 o15) (n1 o23)) (.node o11 (n1 o19) (n1 o27))) (.node (boot_o_5 P) (.node (boot_o_9 P) (n1 (lst (txs 256) 256)) (n1 o25)) (.node o13 (n1 o21) .nil))) (.node (boot_o_2 P) (.node (boot_o_4 P) (.node (boot_o_8 P) (n1 (o16 256)) (n1 (lst (txs 256) 0))) (.node o12z (n1 o20) .nil)) (.node (boot_o_6 P) (.node (boot_o_10 P) (n1 o18f) (n1 o26)) (.node o14 (n1 (lst ((x22 67).set 32 (.str "_" 1439)) 0)) .nil))))
def SG (P : Params) (os : OsState) : SharedT := ⟨tG P, 28, {}, #[], {}, 1442, os⟩
def tH (P : Params) (i : Nat) : BT := (.node (boot_o_0 P) (.node (boot_o_1 P) (.node (ns12 P i) (.node (boot_o_7 P) (n1 o15) (n1 o23)) (.node o11 (n1 o19) (n1 o27))) (.node (boot_o_5 P) (.node (boot_o_9 P) (n1 (lst (txs 256) 256)) (n1 o25)) (.node o13 (n1 o21) .nil))) (.node (boot_o_2 P) (.node (boot_o_4 P) (.node (boot_o_8 P) (n1 (o16 256)) (n1 (lst (x24 i) 0))) (.node o12z (n1 o20) (n1 (bIt b2 1442 i)))) (.node (boot_o_6 P) (.node (boot_o_10 P) (n1 o18f) (n1 o26)) (.node o14 (n1 (lst ((x22 67).set 32 (.str "_" 1439)) 0)) .nil))))
def SH (P : Params) (i : Nat) (os : OsState) : SharedT := ⟨tH P i, 29, {}, #[], {}, 1443 + 3 * i, os⟩
def tI (P : Params) : BT := (.node (boot_o_0 P) (.node (boot_o_1 P) (.node (nsO P vQ (l10 P 9 1725) 19) (.node (boot_o_7 P) (n1 o15) (n1 o23)) (.node o11 (n1 o19) (n1 o27))) (.node (boot_o_5 P) (.node (boot_o_9 P) (n1 (lst (txs 256) 256)) (n1 o25)) (.node o13 (n1 o21) (n1 o29)))) (.node (boot_o_2 P) (.node (boot_o_4 P) (.node (boot_o_8 P) (n1 (o16 256)) (n1 (lst (x24 95) 0))) (.node o12z (n1 o20) (n1 o28))) (.node (boot_o_6 P) (.node (boot_o_10 P) (n1 o18f) (n1 o26)) (.node o14 (n1 (lst ((x22 67).set 32 (.str "_" 1439)) 0)) (n1 o30)))))
def SI (P : Params) (os : OsState) : SharedT := ⟨tI P, 31, {}, #[], {}, 1728, os⟩
def x39 : List Value := put 1739 [13, 10] (x24 95)
def o3 (P : Params) : Obj := Obj.mk (Value.type "dict") none (Data.dict #[DictEntry.mk (PyData.keyHash P (Str.ofString "__name__")) (Value.str (Str.ofString "__name__") 165) (Value.str (Str.ofString "law_tx0018_01") 1775), DictEntry.mk (PyData.keyHash P (Str.ofString "__doc__")) (Value.str (Str.ofString "__doc__") 166) Value.none, DictEntry.mk (PyData.keyHash P (Str.ofString "__package__")) (Value.str (Str.ofString "__package__") 167) Value.none, DictEntry.mk (PyData.keyHash P (Str.ofString "__loader__")) (Value.str (Str.ofString "__loader__") 168) (Value.builtin "__main__.__loader__#opaque"), DictEntry.mk (PyData.keyHash P (Str.ofString "__spec__")) (Value.str (Str.ofString "__spec__") 169) Value.none, DictEntry.mk (PyData.keyHash P (Str.ofString "__annotations__")) (Value.str (Str.ofString "__annotations__") 170) (Value.ref 6), DictEntry.mk (PyData.keyHash P (Str.ofString "__builtins__")) (Value.str (Str.ofString "__builtins__") 171) (Value.ref 4), DictEntry.mk (PyData.keyHash P (Str.ofString "__file__")) (Value.str (Str.ofString "__file__") 173) (Value.str (Str.ofString "/claim/cut.py") 172), DictEntry.mk (PyData.keyHash P (Str.ofString "__cached__")) (Value.str (Str.ofString "__cached__") 174) Value.none, DictEntry.mk (PyData.keyHash P (Str.ofString "CRLF")) (Value.str (Str.ofString "CRLF") 188) (Value.str (Str.ofString "\x0d\n") 187), DictEntry.mk (PyData.keyHash P (Str.ofString "NL")) (Value.str (Str.ofString "NL") 190) (Value.str (Str.ofString "\n") 189), DictEntry.mk (PyData.keyHash P (Str.ofString "_QUOPRI_MAP")) (Value.str (Str.ofString "_QUOPRI_MAP") 1218) (Value.ref 17), DictEntry.mk (PyData.keyHash P (Str.ofString "_QUOPRI_HEADER_MAP")) (Value.str (Str.ofString "_QUOPRI_HEADER_MAP") 1219) (Value.ref 22), DictEntry.mk (PyData.keyHash P (Str.ofString "_QUOPRI_BODY_MAP")) (Value.str (Str.ofString "_QUOPRI_BODY_MAP") 1220) (Value.ref 24), DictEntry.mk (PyData.keyHash P (Str.ofString "ascii_lowercase")) (Value.str (Str.ofString "ascii_lowercase") 1222) (Value.str (Str.ofString "abcdefghijklmnopqrstuvwxyz") 1221), DictEntry.mk (PyData.keyHash P (Str.ofString "ascii_uppercase")) (Value.str (Str.ofString "ascii_uppercase") 1224) (Value.str (Str.ofString "ABCDEFGHIJKLMNOPQRSTUVWXYZ") 1223), DictEntry.mk (PyData.keyHash P (Str.ofString "ascii_letters")) (Value.str (Str.ofString "ascii_letters") 1226) (Value.str (Str.ofString "abcdefghijklmnopqrstuvwxyzABCDEFGHIJKLMNOPQRSTUVWXYZ") 1225), DictEntry.mk (PyData.keyHash P (Str.ofString "digits")) (Value.str (Str.ofString "digits") 1228) (Value.str (Str.ofString "0123456789") 1227), DictEntry.mk (PyData.keyHash P (Str.ofString "quote")) (Value.str (Str.ofString "quote") 1734) (Value.ref 37), DictEntry.mk (PyData.keyHash P (Str.ofString "_QUOPRI_BODY_ENCODE_MAP")) (Value.str (Str.ofString "_QUOPRI_BODY_ENCODE_MAP") 1735) (Value.ref 39), DictEntry.mk (PyData.keyHash P (Str.ofString "body_encode")) (Value.str (Str.ofString "body_encode") 1762) (Value.ref 50), DictEntry.mk (PyData.keyHash P (Str.ofString "_generate_overlap_table")) (Value.str (Str.ofString "_generate_overlap_table") 1774) (Value.ref 57), DictEntry.mk (PyData.keyHash P (Str.ofString "_law_wide")) (Value.str (Str.ofString "_law_wide") 1783) (Value.ref 64), DictEntry.mk (PyData.keyHash P (Str.ofString "_law_figures")) (Value.str (Str.ofString "_law_figures") 1791) (Value.ref 71), DictEntry.mk (PyData.keyHash P (Str.ofString "_law_long")) (Value.str (Str.ofString "_law_long") 1797) (Value.ref 76), DictEntry.mk (PyData.keyHash P (Str.ofString "_law_line")) (Value.str (Str.ofString "_law_line") 1806) (Value.ref 83), DictEntry.mk (PyData.keyHash P (Str.ofString "_law_marked")) (Value.str (Str.ofString "_law_marked") 1819) (Value.ref 90), DictEntry.mk (PyData.keyHash P (Str.ofString "_law_tails")) (Value.str (Str.ofString "_law_tails") 1832) (Value.ref 97), DictEntry.mk (PyData.keyHash P (Str.ofString "_law_found")) (Value.str (Str.ofString "_law_found") 1845) (Value.ref 104), DictEntry.mk (PyData.keyHash P (Str.ofString "_law_kept")) (Value.str (Str.ofString "_law_kept") 1852) (Value.ref 111), DictEntry.mk (PyData.keyHash P (Str.ofString "_law_row")) (Value.str (Str.ofString "_law_row") 1858) (Value.ref 116), DictEntry.mk (PyData.keyHash P (Str.ofString "_law_text")) (Value.str (Str.ofString "_law_text") 1864) (Value.ref 121), DictEntry.mk (PyData.keyHash P (Str.ofString "law")) (Value.str (Str.ofString "law") 1870) (Value.ref 126)] 35) #[]
def o12 : Obj := Obj.mk Value.none none (Data.fields #[Value.int 16 0, Value.int 0 0, Value.ref 36, Value.int 22 0, Value.int 0 0, Value.ref 49, Value.int 61 0, Value.int 0 0, Value.ref 56, Value.int 74 0, Value.int 0 0, Value.ref 63, Value.int 76 0, Value.int 0 0, Value.ref 70, Value.int 79 0, Value.int 0 0, Value.ref 75, Value.int 81 0, Value.int 0 0, Value.ref 82, Value.int 88 0, Value.int 0 0, Value.ref 89, Value.int 103 0, Value.int 0 0, Value.ref 96, Value.int 113 0, Value.int 0 0, Value.ref 103, Value.int 130 0, Value.int 0 0, Value.ref 110, Value.int 132 0, Value.int 0 0, Value.ref 115, Value.int 138 0, Value.int 0 0, Value.ref 120, Value.int 140 0, Value.int 0 0, Value.ref 125]) #[]
def o31 : Obj := Obj.mk (Value.type "tuple") none (Data.seq #[]) #[]
def o32 : Obj := Obj.mk Value.none none (Data.fields #[]) #[]
def o33 : Obj := Obj.mk (Value.type "tuple") none (Data.seq #[Value.str (Str.ofString "c") 1731]) #[]
def o34 : Obj := Obj.mk (Value.type "tuple") none (Data.seq #[]) #[]
def o35 : Obj := Obj.mk Value.none none (Data.func (FuncData.mk (Str.ofString "quote") (Str.ofString "quote") (fp 13) (fb 13) (fs 13) 0 [] Value.none Value.none Value.none Value.none none Value.none Value.none 0)) #[]
def o36 : Obj := Obj.mk (Value.type "code") none (Data.fields #[Value.str (Str.ofString "quote") 1728, Value.str (Str.ofString "quote") 1729, Value.str (Str.ofString "/claim/cut.py") 1730, Value.int 16 0, Value.int 1 0, Value.int 0 0, Value.int 0 0, Value.int 3 0, Value.ref 31, Value.bool true, Value.int 181 0, Value.ref 32, Value.none, Value.ref 33, Value.ref 34, Value.ref 35, Value.int 1732 0, Value.int 16 0, Value.str (Str.ofString "/claim/cut.py") 1733]) #[]
def o37 : Obj := Obj.mk (Value.type "function") none (Data.func (FuncData.mk (Str.ofString "quote") (Str.ofString "quote") (fp 13) (fb 13) (fs 13) 3 [] Value.none Value.none Value.none (Value.str (Str.ofString "cpy313.email.quoprimime") 1229) none (Value.ref 36) Value.none 0)) #[]
def o38 : Obj := Obj.mk (Value.type "slice") none (Data.fields #[Value.none, Value.none, Value.none]) #[]
def o40 : Obj := Obj.mk (Value.type "bytes_iterator") none (Data.fields #[Value.none, Value.int 2 0]) #[]
def o41 : Obj := Obj.mk (Value.type "tuple") none (Data.seq #[]) #[]
def o42 : Obj := Obj.mk (Value.type "StopIteration") none (Data.fields #[Value.ref 41, Value.none, Value.none, Value.none, Value.bool false, Value.none]) #[]
def o43 : Obj := Obj.mk (Value.type "tuple") none (Data.seq #[Value.int 76 1743, Value.str (Str.ofString "\n") 189]) #[]
def o44 : Obj := Obj.mk (Value.type "tuple") none (Data.seq #[]) #[]
def o45 : Obj := Obj.mk Value.none none (Data.fields #[]) #[]
def o46 : Obj := Obj.mk (Value.type "tuple") none (Data.seq #[Value.str (Str.ofString "body") 1747, Value.str (Str.ofString "maxlinelen") 1748, Value.str (Str.ofString "eol") 1749, Value.str (Str.ofString "soft_break") 1750, Value.str (Str.ofString "maxlinelen1") 1751, Value.str (Str.ofString "encoded_body") 1752, Value.str (Str.ofString "append") 1753, Value.str (Str.ofString "line") 1754, Value.str (Str.ofString "start") 1755, Value.str (Str.ofString "laststart") 1756, Value.str (Str.ofString "stop") 1757, Value.str (Str.ofString "room") 1758, Value.str (Str.ofString "q") 1759]) #[]
def o47 : Obj := Obj.mk (Value.type "tuple") none (Data.seq #[]) #[]
def o48 : Obj := Obj.mk Value.none none (Data.func (FuncData.mk (Str.ofString "body_encode") (Str.ofString "body_encode") (fp 17) (fb 17) (fs 17) 0 [] Value.none Value.none Value.none Value.none none Value.none Value.none 0)) #[]
def o49 : Obj := Obj.mk (Value.type "code") none (Data.fields #[Value.str (Str.ofString "body_encode") 1744, Value.str (Str.ofString "body_encode") 1745, Value.str (Str.ofString "/claim/cut.py") 1746, Value.int 22 0, Value.int 3 0, Value.int 0 0, Value.int 0 0, Value.int 3 0, Value.ref 44, Value.bool true, Value.int 181 0, Value.ref 45, Value.none, Value.ref 46, Value.ref 47, Value.ref 48, Value.int 1760 0, Value.int 22 0, Value.str (Str.ofString "/claim/cut.py") 1761]) #[]
def o50 : Obj := Obj.mk (Value.type "function") none (Data.func (FuncData.mk (Str.ofString "body_encode") (Str.ofString "body_encode") (fp 17) (fb 17) (fs 17) 3 [] (Value.ref 43) Value.none Value.none (Value.str (Str.ofString "cpy313.email.quoprimime") 1229) none (Value.ref 49) Value.none 0)) #[]
def o51 : Obj := Obj.mk (Value.type "tuple") none (Data.seq #[]) #[]
def o52 : Obj := Obj.mk Value.none none (Data.fields #[]) #[]
def o53 : Obj := Obj.mk (Value.type "tuple") none (Data.seq #[Value.str (Str.ofString "prefix") 1768, Value.str (Str.ofString "table") 1769, Value.str (Str.ofString "i") 1770, Value.str (Str.ofString "idx") 1771]) #[]
def o54 : Obj := Obj.mk (Value.type "tuple") none (Data.seq #[]) #[]
def o55 : Obj := Obj.mk Value.none none (Data.func (FuncData.mk (Str.ofString "_generate_overlap_table") (Str.ofString "_generate_overlap_table") (fp 19) (fb 19) (fs 19) 0 [] Value.none Value.none Value.none Value.none none Value.none Value.none 0)) #[]
def o56 : Obj := Obj.mk (Value.type "code") none (Data.fields #[Value.str (Str.ofString "_generate_overlap_table") 1765, Value.str (Str.ofString "_generate_overlap_table") 1766, Value.str (Str.ofString "/claim/cut.py") 1767, Value.int 61 0, Value.int 1 0, Value.int 0 0, Value.int 0 0, Value.int 3 0, Value.ref 51, Value.bool true, Value.int 181 0, Value.ref 52, Value.none, Value.ref 53, Value.ref 54, Value.ref 55, Value.int 1772 0, Value.int 61 0, Value.str (Str.ofString "/claim/cut.py") 1773]) #[]
def o57 : Obj := Obj.mk (Value.type "function") none (Data.func (FuncData.mk (Str.ofString "_generate_overlap_table") (Str.ofString "_generate_overlap_table") (fp 19) (fb 19) (fs 19) 3 [] Value.none Value.none Value.none (Value.str (Str.ofString "cpy313.re._compiler") 1763) none (Value.ref 56) Value.none 0)) #[]
def o58 : Obj := Obj.mk (Value.type "tuple") none (Data.seq #[]) #[]
def o59 : Obj := Obj.mk Value.none none (Data.fields #[]) #[]
def o60 : Obj := Obj.mk (Value.type "tuple") none (Data.seq #[Value.str (Str.ofString "octet") 1780]) #[]
def o61 : Obj := Obj.mk (Value.type "tuple") none (Data.seq #[]) #[]
def o62 : Obj := Obj.mk Value.none none (Data.func (FuncData.mk (Str.ofString "_law_wide") (Str.ofString "_law_wide") (fp 21) (fb 21) (fs 21) 0 [] Value.none Value.none Value.none Value.none none Value.none Value.none 0)) #[]
def o63 : Obj := Obj.mk (Value.type "code") none (Data.fields #[Value.str (Str.ofString "_law_wide") 1777, Value.str (Str.ofString "_law_wide") 1778, Value.str (Str.ofString "/claim/cut.py") 1779, Value.int 74 0, Value.int 1 0, Value.int 0 0, Value.int 0 0, Value.int 3 0, Value.ref 58, Value.bool true, Value.int 181 0, Value.ref 59, Value.none, Value.ref 60, Value.ref 61, Value.ref 62, Value.int 1781 0, Value.int 74 0, Value.str (Str.ofString "/claim/cut.py") 1782]) #[]
def o64 : Obj := Obj.mk (Value.type "function") none (Data.func (FuncData.mk (Str.ofString "_law_wide") (Str.ofString "_law_wide") (fp 21) (fb 21) (fs 21) 3 [] Value.none Value.none Value.none (Value.str (Str.ofString "law_tx0018_01") 1775) none (Value.ref 63) Value.none 0)) #[]
def o65 : Obj := Obj.mk (Value.type "tuple") none (Data.seq #[]) #[]
def o66 : Obj := Obj.mk Value.none none (Data.fields #[]) #[]
def o67 : Obj := Obj.mk (Value.type "tuple") none (Data.seq #[Value.str (Str.ofString "octet") 1787, Value.str (Str.ofString "figures") 1788]) #[]
def o68 : Obj := Obj.mk (Value.type "tuple") none (Data.seq #[]) #[]
def o69 : Obj := Obj.mk Value.none none (Data.func (FuncData.mk (Str.ofString "_law_figures") (Str.ofString "_law_figures") (fp 22) (fb 22) (fs 22) 0 [] Value.none Value.none Value.none Value.none none Value.none Value.none 0)) #[]
def o70 : Obj := Obj.mk (Value.type "code") none (Data.fields #[Value.str (Str.ofString "_law_figures") 1784, Value.str (Str.ofString "_law_figures") 1785, Value.str (Str.ofString "/claim/cut.py") 1786, Value.int 76 0, Value.int 1 0, Value.int 0 0, Value.int 0 0, Value.int 3 0, Value.ref 65, Value.bool true, Value.int 181 0, Value.ref 66, Value.none, Value.ref 67, Value.ref 68, Value.ref 69, Value.int 1789 0, Value.int 76 0, Value.str (Str.ofString "/claim/cut.py") 1790]) #[]
def o71 : Obj := Obj.mk (Value.type "function") none (Data.func (FuncData.mk (Str.ofString "_law_figures") (Str.ofString "_law_figures") (fp 22) (fb 22) (fs 22) 3 [] Value.none Value.none Value.none (Value.str (Str.ofString "law_tx0018_01") 1775) none (Value.ref 70) Value.none 0)) #[]
def o72 : Obj := Obj.mk (Value.type "tuple") none (Data.seq #[]) #[]
def o73 : Obj := Obj.mk Value.none none (Data.fields #[]) #[]
def o74 : Obj := Obj.mk Value.none none (Data.func (FuncData.mk (Str.ofString "_law_long") (Str.ofString "_law_long") (fp 23) (fb 23) (fs 23) 0 [] Value.none Value.none Value.none Value.none none Value.none Value.none 0)) #[]
def o75 : Obj := Obj.mk (Value.type "code") none (Data.fields #[Value.str (Str.ofString "_law_long") 1792, Value.str (Str.ofString "_law_long") 1793, Value.str (Str.ofString "/claim/cut.py") 1794, Value.int 79 0, Value.int 1 0, Value.int 0 0, Value.int 0 0, Value.int 3 0, Value.ref 72, Value.bool true, Value.int 181 0, Value.ref 73, Value.none, Value.none, Value.none, Value.ref 74, Value.int 1795 0, Value.int 79 0, Value.str (Str.ofString "/claim/cut.py") 1796]) #[]
def o76 : Obj := Obj.mk (Value.type "function") none (Data.func (FuncData.mk (Str.ofString "_law_long") (Str.ofString "_law_long") (fp 23) (fb 23) (fs 23) 3 [] Value.none Value.none Value.none (Value.str (Str.ofString "law_tx0018_01") 1775) none (Value.ref 75) Value.none 0)) #[]
def o77 : Obj := Obj.mk (Value.type "tuple") none (Data.seq #[]) #[]
def o78 : Obj := Obj.mk Value.none none (Data.fields #[]) #[]
def o79 : Obj := Obj.mk (Value.type "tuple") none (Data.seq #[Value.str (Str.ofString "row") 1801, Value.str (Str.ofString "line") 1802, Value.str (Str.ofString "octet") 1803]) #[]
def o80 : Obj := Obj.mk (Value.type "tuple") none (Data.seq #[]) #[]
def o81 : Obj := Obj.mk Value.none none (Data.func (FuncData.mk (Str.ofString "_law_line") (Str.ofString "_law_line") (fp 24) (fb 24) (fs 24) 0 [] Value.none Value.none Value.none Value.none none Value.none Value.none 0)) #[]
def o82 : Obj := Obj.mk (Value.type "code") none (Data.fields #[Value.str (Str.ofString "_law_line") 1798, Value.str (Str.ofString "_law_line") 1799, Value.str (Str.ofString "/claim/cut.py") 1800, Value.int 81 0, Value.int 1 0, Value.int 0 0, Value.int 0 0, Value.int 3 0, Value.ref 77, Value.bool true, Value.int 181 0, Value.ref 78, Value.none, Value.ref 79, Value.ref 80, Value.ref 81, Value.int 1804 0, Value.int 81 0, Value.str (Str.ofString "/claim/cut.py") 1805]) #[]
def o83 : Obj := Obj.mk (Value.type "function") none (Data.func (FuncData.mk (Str.ofString "_law_line") (Str.ofString "_law_line") (fp 24) (fb 24) (fs 24) 3 [] Value.none Value.none Value.none (Value.str (Str.ofString "law_tx0018_01") 1775) none (Value.ref 82) Value.none 0)) #[]
def o84 : Obj := Obj.mk (Value.type "tuple") none (Data.seq #[]) #[]
def o85 : Obj := Obj.mk Value.none none (Data.fields #[]) #[]
def o86 : Obj := Obj.mk (Value.type "tuple") none (Data.seq #[Value.str (Str.ofString "row") 1810, Value.str (Str.ofString "longest") 1811, Value.str (Str.ofString "marked") 1812, Value.str (Str.ofString "place") 1813, Value.str (Str.ofString "column") 1814, Value.str (Str.ofString "k") 1815, Value.str (Str.ofString "size") 1816]) #[]
def o87 : Obj := Obj.mk (Value.type "tuple") none (Data.seq #[]) #[]
def o88 : Obj := Obj.mk Value.none none (Data.func (FuncData.mk (Str.ofString "_law_marked") (Str.ofString "_law_marked") (fp 25) (fb 25) (fs 25) 0 [] Value.none Value.none Value.none Value.none none Value.none Value.none 0)) #[]
def o89 : Obj := Obj.mk (Value.type "code") none (Data.fields #[Value.str (Str.ofString "_law_marked") 1807, Value.str (Str.ofString "_law_marked") 1808, Value.str (Str.ofString "/claim/cut.py") 1809, Value.int 88 0, Value.int 2 0, Value.int 0 0, Value.int 0 0, Value.int 3 0, Value.ref 84, Value.bool true, Value.int 181 0, Value.ref 85, Value.none, Value.ref 86, Value.ref 87, Value.ref 88, Value.int 1817 0, Value.int 88 0, Value.str (Str.ofString "/claim/cut.py") 1818]) #[]
def o90 : Obj := Obj.mk (Value.type "function") none (Data.func (FuncData.mk (Str.ofString "_law_marked") (Str.ofString "_law_marked") (fp 25) (fb 25) (fs 25) 3 [] Value.none Value.none Value.none (Value.str (Str.ofString "law_tx0018_01") 1775) none (Value.ref 89) Value.none 0)) #[]
def o91 : Obj := Obj.mk (Value.type "tuple") none (Data.seq #[]) #[]
def o92 : Obj := Obj.mk Value.none none (Data.fields #[]) #[]
def o93 : Obj := Obj.mk (Value.type "tuple") none (Data.seq #[Value.str (Str.ofString "marked") 1823, Value.str (Str.ofString "tails") 1824, Value.str (Str.ofString "j") 1825, Value.str (Str.ofString "octet") 1826, Value.str (Str.ofString "place") 1827, Value.str (Str.ofString "first") 1828, Value.str (Str.ofString "last") 1829]) #[]
def o94 : Obj := Obj.mk (Value.type "tuple") none (Data.seq #[]) #[]
def o95 : Obj := Obj.mk Value.none none (Data.func (FuncData.mk (Str.ofString "_law_tails") (Str.ofString "_law_tails") (fp 26) (fb 26) (fs 26) 0 [] Value.none Value.none Value.none Value.none none Value.none Value.none 0)) #[]
def o96 : Obj := Obj.mk (Value.type "code") none (Data.fields #[Value.str (Str.ofString "_law_tails") 1820, Value.str (Str.ofString "_law_tails") 1821, Value.str (Str.ofString "/claim/cut.py") 1822, Value.int 103 0, Value.int 1 0, Value.int 0 0, Value.int 0 0, Value.int 3 0, Value.ref 91, Value.bool true, Value.int 181 0, Value.ref 92, Value.none, Value.ref 93, Value.ref 94, Value.ref 95, Value.int 1830 0, Value.int 103 0, Value.str (Str.ofString "/claim/cut.py") 1831]) #[]
def o97 : Obj := Obj.mk (Value.type "function") none (Data.func (FuncData.mk (Str.ofString "_law_tails") (Str.ofString "_law_tails") (fp 26) (fb 26) (fs 26) 3 [] Value.none Value.none Value.none (Value.str (Str.ofString "law_tx0018_01") 1775) none (Value.ref 96) Value.none 0)) #[]
def o98 : Obj := Obj.mk (Value.type "tuple") none (Data.seq #[]) #[]
def o99 : Obj := Obj.mk Value.none none (Data.fields #[]) #[]
def o100 : Obj := Obj.mk (Value.type "tuple") none (Data.seq #[Value.str (Str.ofString "letter") 1836, Value.str (Str.ofString "word") 1837, Value.str (Str.ofString "table") 1838, Value.str (Str.ofString "found") 1839, Value.str (Str.ofString "have") 1840, Value.str (Str.ofString "place") 1841, Value.str (Str.ofString "sign") 1842]) #[]
def o101 : Obj := Obj.mk (Value.type "tuple") none (Data.seq #[]) #[]
def o102 : Obj := Obj.mk Value.none none (Data.func (FuncData.mk (Str.ofString "_law_found") (Str.ofString "_law_found") (fp 27) (fb 27) (fs 27) 0 [] Value.none Value.none Value.none Value.none none Value.none Value.none 0)) #[]
def o103 : Obj := Obj.mk (Value.type "code") none (Data.fields #[Value.str (Str.ofString "_law_found") 1833, Value.str (Str.ofString "_law_found") 1834, Value.str (Str.ofString "/claim/cut.py") 1835, Value.int 113 0, Value.int 3 0, Value.int 0 0, Value.int 0 0, Value.int 3 0, Value.ref 98, Value.bool true, Value.int 181 0, Value.ref 99, Value.none, Value.ref 100, Value.ref 101, Value.ref 102, Value.int 1843 0, Value.int 113 0, Value.str (Str.ofString "/claim/cut.py") 1844]) #[]
def o104 : Obj := Obj.mk (Value.type "function") none (Data.func (FuncData.mk (Str.ofString "_law_found") (Str.ofString "_law_found") (fp 27) (fb 27) (fs 27) 3 [] Value.none Value.none Value.none (Value.str (Str.ofString "law_tx0018_01") 1775) none (Value.ref 103) Value.none 0)) #[]
def o105 : Obj := Obj.mk (Value.type "tuple") none (Data.seq #[]) #[]
def o106 : Obj := Obj.mk Value.none none (Data.fields #[]) #[]
def o107 : Obj := Obj.mk (Value.type "tuple") none (Data.seq #[Value.str (Str.ofString "octet") 1849]) #[]
def o108 : Obj := Obj.mk (Value.type "tuple") none (Data.seq #[]) #[]
def o109 : Obj := Obj.mk Value.none none (Data.func (FuncData.mk (Str.ofString "_law_kept") (Str.ofString "_law_kept") (fp 28) (fb 28) (fs 21) 0 [] Value.none Value.none Value.none Value.none none Value.none Value.none 0)) #[]
def o110 : Obj := Obj.mk (Value.type "code") none (Data.fields #[Value.str (Str.ofString "_law_kept") 1846, Value.str (Str.ofString "_law_kept") 1847, Value.str (Str.ofString "/claim/cut.py") 1848, Value.int 130 0, Value.int 1 0, Value.int 0 0, Value.int 0 0, Value.int 3 0, Value.ref 105, Value.bool true, Value.int 181 0, Value.ref 106, Value.none, Value.ref 107, Value.ref 108, Value.ref 109, Value.int 1850 0, Value.int 130 0, Value.str (Str.ofString "/claim/cut.py") 1851]) #[]
def o111 : Obj := Obj.mk (Value.type "function") none (Data.func (FuncData.mk (Str.ofString "_law_kept") (Str.ofString "_law_kept") (fp 28) (fb 28) (fs 21) 3 [] Value.none Value.none Value.none (Value.str (Str.ofString "law_tx0018_01") 1775) none (Value.ref 110) Value.none 0)) #[]
def o112 : Obj := Obj.mk (Value.type "tuple") none (Data.seq #[]) #[]
def o113 : Obj := Obj.mk Value.none none (Data.fields #[]) #[]
def o114 : Obj := Obj.mk Value.none none (Data.func (FuncData.mk (Str.ofString "_law_row") (Str.ofString "_law_row") (fp 29) (fb 29) (fs 29) 0 [] Value.none Value.none Value.none Value.none none Value.none Value.none 0)) #[]
def o115 : Obj := Obj.mk (Value.type "code") none (Data.fields #[Value.str (Str.ofString "_law_row") 1853, Value.str (Str.ofString "_law_row") 1854, Value.str (Str.ofString "/claim/cut.py") 1855, Value.int 132 0, Value.int 1 0, Value.int 0 0, Value.int 0 0, Value.int 3 0, Value.ref 112, Value.bool true, Value.int 181 0, Value.ref 113, Value.none, Value.none, Value.none, Value.ref 114, Value.int 1856 0, Value.int 132 0, Value.str (Str.ofString "/claim/cut.py") 1857]) #[]
def o116 : Obj := Obj.mk (Value.type "function") none (Data.func (FuncData.mk (Str.ofString "_law_row") (Str.ofString "_law_row") (fp 29) (fb 29) (fs 29) 3 [] Value.none Value.none Value.none (Value.str (Str.ofString "law_tx0018_01") 1775) none (Value.ref 115) Value.none 0)) #[]
def o117 : Obj := Obj.mk (Value.type "tuple") none (Data.seq #[]) #[]
def o118 : Obj := Obj.mk Value.none none (Data.fields #[]) #[]
def o119 : Obj := Obj.mk Value.none none (Data.func (FuncData.mk (Str.ofString "_law_text") (Str.ofString "_law_text") (fp 30) (fb 30) (fs 30) 0 [] Value.none Value.none Value.none Value.none none Value.none Value.none 0)) #[]
def o120 : Obj := Obj.mk (Value.type "code") none (Data.fields #[Value.str (Str.ofString "_law_text") 1859, Value.str (Str.ofString "_law_text") 1860, Value.str (Str.ofString "/claim/cut.py") 1861, Value.int 138 0, Value.int 1 0, Value.int 0 0, Value.int 0 0, Value.int 3 0, Value.ref 117, Value.bool true, Value.int 181 0, Value.ref 118, Value.none, Value.none, Value.none, Value.ref 119, Value.int 1862 0, Value.int 138 0, Value.str (Str.ofString "/claim/cut.py") 1863]) #[]
def o121 : Obj := Obj.mk (Value.type "function") none (Data.func (FuncData.mk (Str.ofString "_law_text") (Str.ofString "_law_text") (fp 30) (fb 30) (fs 30) 3 [] Value.none Value.none Value.none (Value.str (Str.ofString "law_tx0018_01") 1775) none (Value.ref 120) Value.none 0)) #[]
def o122 : Obj := Obj.mk (Value.type "tuple") none (Data.seq #[]) #[]
def o123 : Obj := Obj.mk Value.none none (Data.fields #[]) #[]
def o124 : Obj := Obj.mk Value.none none (Data.func (FuncData.mk (Str.ofString "law") (Str.ofString "law") (fp 31) (fb 31) (fs 31) 0 [] Value.none Value.none Value.none Value.none none Value.none Value.none 0)) #[]
def o125 : Obj := Obj.mk (Value.type "code") none (Data.fields #[Value.str (Str.ofString "law") 1865, Value.str (Str.ofString "law") 1866, Value.str (Str.ofString "/claim/cut.py") 1867, Value.int 140 0, Value.int 1 0, Value.int 0 0, Value.int 0 0, Value.int 3 0, Value.ref 122, Value.bool true, Value.int 181 0, Value.ref 123, Value.none, Value.none, Value.none, Value.ref 124, Value.int 1868 0, Value.int 140 0, Value.str (Str.ofString "/claim/cut.py") 1869]) #[]
def o126 : Obj := Obj.mk (Value.type "function") none (Data.func (FuncData.mk (Str.ofString "law") (Str.ofString "law") (fp 31) (fb 31) (fs 31) 3 [] Value.none Value.none Value.none (Value.str (Str.ofString "law_tx0018_01") 1775) none (Value.ref 125) Value.none 0)) #[]
def tX (P : Params) : BT := (.node (boot_o_0 P) (.node (boot_o_1 P) (.node (o3 P) (.node (boot_o_7 P) (.node o15 (.node o31 (n1 o63) (n1 o95)) (.node o47 (n1 o79) (n1 o111))) (.node o23 (.node (lst x39 0) (n1 o71) (n1 o103)) (.node o55 (n1 o87) (n1 o119)))) (.node o11 (.node o19 (.node o35 (n1 o67) (n1 o99)) (.node o51 (n1 o83) (n1 o115))) (.node o27 (.node o43 (n1 o75) (n1 o107)) (.node o59 (n1 o91) (n1 o123))))) (.node (boot_o_5 P) (.node (boot_o_9 P) (.node (lst (txs 256) 256) (.node o33 (n1 o65) (n1 o97)) (.node o49 (n1 o81) (n1 o113))) (.node o25 (.node o41 (n1 o73) (n1 o105)) (.node o57 (n1 o89) (n1 o121)))) (.node o13 (.node o21 (.node o37 (n1 o69) (n1 o101)) (.node o53 (n1 o85) (n1 o117))) (.node o29 (.node o45 (n1 o77) (n1 o109)) (.node o61 (n1 o93) (n1 o125)))))) (.node (boot_o_2 P) (.node (boot_o_4 P) (.node (boot_o_8 P) (.node (o16 256) (.node o32 (n1 o64) (n1 o96)) (.node o48 (n1 o80) (n1 o112))) (.node (lst (x24 95) 0) (.node o40 (n1 o72) (n1 o104)) (.node o56 (n1 o88) (n1 o120)))) (.node o12 (.node o20 (.node o36 (n1 o68) (n1 o100)) (.node o52 (n1 o84) (n1 o116))) (.node o28 (.node o44 (n1 o76) (n1 o108)) (.node o60 (n1 o92) (n1 o124))))) (.node (boot_o_6 P) (.node (boot_o_10 P) (.node o18f (.node o34 (n1 o66) (n1 o98)) (.node o50 (n1 o82) (n1 o114))) (.node o26 (.node o42 (n1 o74) (n1 o106)) (.node o58 (n1 o90) (n1 o122)))) (.node o14 (.node (lst ((x22 67).set 32 (.str "_" 1439)) 0) (.node o38 (n1 o70) (n1 o102)) (.node o54 (n1 o86) (n1 o118))) (.node o30 (.node o46 (n1 o78) (n1 o110)) (.node o62 (n1 o94) (n1 o126)))))))
def SX (P : Params) (os : OsState) : SharedT := ⟨tX P, 127, {}, #[], {}, 1871, os⟩
abbrev go (w : World) (n : Nat) (s : SharedT) (t : Thread) : Option (SharedT × Thread) := segGoT treeTable pr w 11 (some (.ref 6)) 1 n s t
abbrev rn (w : World) (n : Nat) (s : SharedT) (t : Thread) : Option (Flow × SharedT × Code × Pos) := segRunT treeTable pr w 11 (some (.ref 6)) 1 n s t
abbrev rN (w : World) (n : Nat) (s : SharedT) (t : Thread) : Option (Flow × Shared × Code × Pos) := segRun treeTable pr w 11 (some (.ref 6)) 1 n s.abs t
abbrev ps (i n : Nat) (pos : Pos) : Thread := piecesOf (L i n) envM cM pos [topFrame q0]
def kOf (o : Option (SharedT × Thread)) : Result → Sem Fin := match o with | some (_, ⟨_, _, _, .ret k _ _ _ _ _ _ :: _⟩) => k | _ => fun _ => .unsupported ""
theorem pre_ : ∀ w : World, (fun os => topGo treeTable pr w 11 (some (.ref 6)) 12 ⟨boot_heap w.params, Array.mk [], boot_drawn, boot_toks, os⟩ (topStub pr)) = fun os => some ((SZ w.params os).abs, ⟨denote treeTable cM, cM, q0, [topFrame q0]⟩) := by intro w; kernel_rfl
theorem block_ : ∀ w : World, (fun os => segRun treeTable pr w 11 (some (.ref 6)) 1 1 (SZ w.params os).abs (blockOf bd envM cM q0 [topFrame q0])) = fun os => some (.next, (SZ w.params os).abs, cM, q0) := by intro w; kernel_rfl
theorem seg0 : ∀ w : World, (fun os => rn w 40 (SZ w.params os) (ps 0 2 q0)) = fun os => some (.next, SA w.params os, cM, ⟨2, 0, 2, 2⟩) := by intro w; kernel_rfl
def e2 : Expr := match st 2 with | .Assign _ e _ => e | _ => .Name "x" q0
def sc2 : Scope := match e2 with | .ListComp _ _ sc _ => sc | _ => envM.scope
def env2 : Env := compEnvC sc2 [] 18 envM
def c2 : Code := .compLoop e2 0 (.ref 16) (.ref 17) env2
def pC : Nat → Pos | 0 => ⟨3, 36, 3, 46⟩ | _ + 1 => ⟨3, 15, 3, 26⟩
def T2 (K : Result → Sem Fin) (i : Nat) : Thread := ⟨denote treeTable c2, c2, pC i, [.ret K none true [.ref 18, .ref 17] cM ⟨3, 36, 3, 46⟩ [], topFrame q0]⟩
def K2 (n : Nat) (w : World) (os : OsState) : Result → Sem Fin := kOf (go w n (SA w.params os) (ps 2 1 ⟨2, 0, 2, 2⟩))
abbrev W2 (w : World) (a b : Bool) : World := (w.withFollow "special-get-raises" b).withFollow "comprehension-iter-twice" a
abbrev W1 (w : World) (b : Bool) : World := w.withFollow "special-get-raises" b
theorem pre2tt : ∀ w : World, (fun os => go (W2 w true true) 42 (SA (W2 w true true).params os) (ps 2 1 ⟨2, 0, 2, 2⟩)) = fun os => some (SC (W2 w true true).params 0 os, T2 (K2 42 (W2 w true true) os) 0) := by intro w; kernel_rfl
theorem end2tt : ∀ w : World, (fun os => rn (W2 w true true) 70 (SC (W2 w true true).params 256 os) (T2 (K2 42 (W2 w true true) os) 256)) = fun os => some (.next, SB (W2 w true true).params os, cM, ⟨3, 0, 3, 11⟩) := by intro w; kernel_rfl
theorem pre2tf : ∀ w : World, (fun os => go (W2 w true false) 42 (SA (W2 w true false).params os) (ps 2 1 ⟨2, 0, 2, 2⟩)) = fun os => some (SC (W2 w true false).params 0 os, T2 (K2 42 (W2 w true false) os) 0) := by intro w; kernel_rfl
theorem end2tf : ∀ w : World, (fun os => rn (W2 w true false) 70 (SC (W2 w true false).params 256 os) (T2 (K2 42 (W2 w true false) os) 256)) = fun os => some (.next, SB (W2 w true false).params os, cM, ⟨3, 0, 3, 11⟩) := by intro w; kernel_rfl
theorem pre2ft : ∀ w : World, (fun os => go (W2 w false true) 52 (SA (W2 w false true).params os) (ps 2 1 ⟨2, 0, 2, 2⟩)) = fun os => some (SC (W2 w false true).params 0 os, T2 (K2 52 (W2 w false true) os) 0) := by intro w; kernel_rfl
theorem end2ft : ∀ w : World, (fun os => rn (W2 w false true) 60 (SC (W2 w false true).params 256 os) (T2 (K2 52 (W2 w false true) os) 256)) = fun os => some (.next, SB (W2 w false true).params os, cM, ⟨3, 0, 3, 11⟩) := by intro w; kernel_rfl
theorem pre2ff : ∀ w : World, (fun os => go (W2 w false false) 52 (SA (W2 w false false).params os) (ps 2 1 ⟨2, 0, 2, 2⟩)) = fun os => some (SC (W2 w false false).params 0 os, T2 (K2 52 (W2 w false false) os) 0) := by intro w; kernel_rfl
theorem end2ff : ∀ w : World, (fun os => rn (W2 w false false) 60 (SC (W2 w false false).params 256 os) (T2 (K2 52 (W2 w false false) os) 256)) = fun os => some (.next, SB (W2 w false false).params os, cM, ⟨3, 0, 3, 11⟩) := by intro w; kernel_rfl
theorem comp_0 : ∀ w : World, (fun os K => go w 592 (SC w.params 0 os) (T2 K 0)) = fun os K => some (SC w.params 16 os, T2 K 16) := by intro w; kernel_rfl
theorem comp_16 : ∀ w : World, (fun os K => go w 592 (SC w.params 16 os) (T2 K 16)) = fun os K => some (SC w.params 32 os, T2 K 32) := by intro w; kernel_rfl
theorem comp_32 : ∀ w : World, (fun os K => go w 592 (SC w.params 32 os) (T2 K 32)) = fun os K => some (SC w.params 48 os, T2 K 48) := by intro w; kernel_rfl
theorem comp_48 : ∀ w : World, (fun os K => go w 592 (SC w.params 48 os) (T2 K 48)) = fun os K => some (SC w.params 64 os, T2 K 64) := by intro w; kernel_rfl
theorem comp_64 : ∀ w : World, (fun os K => go w 592 (SC w.params 64 os) (T2 K 64)) = fun os K => some (SC w.params 80 os, T2 K 80) := by intro w; kernel_rfl
theorem comp_80 : ∀ w : World, (fun os K => go w 592 (SC w.params 80 os) (T2 K 80)) = fun os K => some (SC w.params 96 os, T2 K 96) := by intro w; kernel_rfl
theorem comp_96 : ∀ w : World, (fun os K => go w 592 (SC w.params 96 os) (T2 K 96)) = fun os K => some (SC w.params 112 os, T2 K 112) := by intro w; kernel_rfl
theorem comp_112 : ∀ w : World, (fun os K => go w 592 (SC w.params 112 os) (T2 K 112)) = fun os K => some (SC w.params 128 os, T2 K 128) := by intro w; kernel_rfl
theorem comp_128 : ∀ w : World, (fun os K => go w 592 (SC w.params 128 os) (T2 K 128)) = fun os K => some (SC w.params 144 os, T2 K 144) := by intro w; kernel_rfl
theorem comp_144 : ∀ w : World, (fun os K => go w 592 (SC w.params 144 os) (T2 K 144)) = fun os K => some (SC w.params 160 os, T2 K 160) := by intro w; kernel_rfl
theorem comp_160 : ∀ w : World, (fun os K => go w 592 (SC w.params 160 os) (T2 K 160)) = fun os K => some (SC w.params 176 os, T2 K 176) := by intro w; kernel_rfl
theorem comp_176 : ∀ w : World, (fun os K => go w 592 (SC w.params 176 os) (T2 K 176)) = fun os K => some (SC w.params 192 os, T2 K 192) := by intro w; kernel_rfl
theorem comp_192 : ∀ w : World, (fun os K => go w 592 (SC w.params 192 os) (T2 K 192)) = fun os K => some (SC w.params 208 os, T2 K 208) := by intro w; kernel_rfl
theorem comp_208 : ∀ w : World, (fun os K => go w 592 (SC w.params 208 os) (T2 K 208)) = fun os K => some (SC w.params 224 os, T2 K 224) := by intro w; kernel_rfl
theorem comp_224 : ∀ w : World, (fun os K => go w 592 (SC w.params 224 os) (T2 K 224)) = fun os K => some (SC w.params 240 os, T2 K 240) := by intro w; kernel_rfl
theorem comp_240 : ∀ w : World, (fun os K => go w 592 (SC w.params 240 os) (T2 K 240)) = fun os K => some (SC w.params 256 os, T2 K 256) := by intro w; kernel_rfl
theorem comp_all (w : World) (os : OsState) (K : Result → Sem Fin) {N : Nat} {r : Flow × Shared × Code × Pos} (h : rN w N (SC w.params 256 os) (T2 K 256) = some r) : rN w (592 + (592 + (592 + (592 + (592 + (592 + (592 + (592 + (592 + (592 + (592 + (592 + (592 + (592 + (592 + (592 + N)))))))))))))))) (SC w.params 0 os) (T2 K 0) = some r := (seg_go (segGo_of (congrFun (congrFun (comp_0 w) os) K)) (seg_go (segGo_of (congrFun (congrFun (comp_16 w) os) K)) (seg_go (segGo_of (congrFun (congrFun (comp_32 w) os) K)) (seg_go (segGo_of (congrFun (congrFun (comp_48 w) os) K)) (seg_go (segGo_of (congrFun (congrFun (comp_64 w) os) K)) (seg_go (segGo_of (congrFun (congrFun (comp_80 w) os) K)) (seg_go (segGo_of (congrFun (congrFun (comp_96 w) os) K)) (seg_go (segGo_of (congrFun (congrFun (comp_112 w) os) K)) (seg_go (segGo_of (congrFun (congrFun (comp_128 w) os) K)) (seg_go (segGo_of (congrFun (congrFun (comp_144 w) os) K)) (seg_go (segGo_of (congrFun (congrFun (comp_160 w) os) K)) (seg_go (segGo_of (congrFun (congrFun (comp_176 w) os) K)) (seg_go (segGo_of (congrFun (congrFun (comp_192 w) os) K)) (seg_go (segGo_of (congrFun (congrFun (comp_208 w) os) K)) (seg_go (segGo_of (congrFun (congrFun (comp_224 w) os) K)) (seg_go (segGo_of (congrFun (congrFun (comp_240 w) os) K)) h))))))))))))))))
theorem seg2 : ∀ (w : World) (os : OsState), rN w 9584 (SA w.params os) (ps 2 1 ⟨2, 0, 2, 2⟩) = some (.next, (SB w.params os).abs, cM, ⟨3, 0, 3, 11⟩) := by
  refine byRow2 "comprehension-iter-twice" (fun w => ?_) (fun w => ?_)
  · refine byRow2 (P := fun w => ∀ os : OsState, rN (w.withFollow "comprehension-iter-twice" false) 9584 (SA (w.withFollow "comprehension-iter-twice" false).params os) (ps 2 1 ⟨2, 0, 2, 2⟩) = some (.next, (SB (w.withFollow "comprehension-iter-twice" false).params os).abs, cM, ⟨3, 0, 3, 11⟩)) "special-get-raises" (fun w os => ?_) (fun w os => ?_) w
    · exact seg_go (segGo_of (congrFun (pre2ff w) os)) (comp_all _ os _ (segRun_of (congrFun (end2ff w) os)))
    · exact seg_go (segGo_of (congrFun (pre2ft w) os)) (comp_all _ os _ (segRun_of (congrFun (end2ft w) os)))
  · refine byRow2 (P := fun w => ∀ os : OsState, rN (w.withFollow "comprehension-iter-twice" true) 9584 (SA (w.withFollow "comprehension-iter-twice" true).params os) (ps 2 1 ⟨2, 0, 2, 2⟩) = some (.next, (SB (w.withFollow "comprehension-iter-twice" true).params os).abs, cM, ⟨3, 0, 3, 11⟩)) "special-get-raises" (fun w os => ?_) (fun w os => ?_) w
    · exact seg_go (segGo_of (congrFun (pre2tf w) os)) (comp_all _ os _ (segRun_of (congrFun (end2tf w) os)))
    · exact seg_go (segGo_of (congrFun (pre2tt w) os)) (comp_all _ os _ (segRun_of (congrFun (end2tt w) os)))
theorem seg3 : ∀ w : World, (fun os => rn w 160 (SB w.params os) (ps 3 7 ⟨3, 0, 3, 11⟩)) = fun os => some (.next, SD w.params os, cM, ⟨10, 0, 10, 8⟩) := by intro w; kernel_rfl
def c10 : Code := match st 10 with | .For t _ b o _ => .forLoop t (.ref 25) b o envM | _ => cM
def p10 : Nat → Pos | 0 => ⟨11, 9, 11, 74⟩ | _ + 1 => ⟨12, 4, 12, 25⟩
def T10 (K : Result → Sem Fin) (i : Nat) : Thread := ⟨denote treeTable c10, c10, p10 i, [.ret K none false [] cM ⟨11, 9, 11, 74⟩ [], topFrame q0]⟩
def K10 (w : World) (os : OsState) : Result → Sem Fin := kOf (go w 44 (SD w.params os) (ps 10 1 ⟨10, 0, 10, 8⟩))
theorem pre10t : ∀ w : World, (fun os => go (W1 w true) 44 (SD (W1 w true).params os) (ps 10 1 ⟨10, 0, 10, 8⟩)) = fun os => some (SE (W1 w true).params 0 os, T10 (K10 (W1 w true) os) 0) := by intro w; kernel_rfl
theorem end10t : ∀ w : World, (fun os => rn (W1 w true) 40 (SE (W1 w true).params 67 os) (T10 (K10 (W1 w true) os) 67)) = fun os => some (.next, SF (W1 w true).params os, cM, ⟨11, 9, 11, 74⟩) := by intro w; kernel_rfl
theorem pre10f : ∀ w : World, (fun os => go (W1 w false) 44 (SD (W1 w false).params os) (ps 10 1 ⟨10, 0, 10, 8⟩)) = fun os => some (SE (W1 w false).params 0 os, T10 (K10 (W1 w false) os) 0) := by intro w; kernel_rfl
theorem end10f : ∀ w : World, (fun os => rn (W1 w false) 40 (SE (W1 w false).params 67 os) (T10 (K10 (W1 w false) os) 67)) = fun os => some (.next, SF (W1 w false).params os, cM, ⟨11, 9, 11, 74⟩) := by intro w; kernel_rfl
theorem loop10_0 : ∀ w : World, (fun os K => go w 720 (SE w.params 0 os) (T10 K 0)) = fun os K => some (SE w.params 16 os, T10 K 16) := by intro w; kernel_rfl
theorem loop10_16 : ∀ w : World, (fun os K => go w 720 (SE w.params 16 os) (T10 K 16)) = fun os K => some (SE w.params 32 os, T10 K 32) := by intro w; kernel_rfl
theorem loop10_32 : ∀ w : World, (fun os K => go w 720 (SE w.params 32 os) (T10 K 32)) = fun os K => some (SE w.params 48 os, T10 K 48) := by intro w; kernel_rfl
theorem loop10_48 : ∀ w : World, (fun os K => go w 855 (SE w.params 48 os) (T10 K 48)) = fun os K => some (SE w.params 67 os, T10 K 67) := by intro w; kernel_rfl
theorem loop10_all (w : World) (os : OsState) (K : Result → Sem Fin) {N : Nat} {r : Flow × Shared × Code × Pos} (h : rN w N (SE w.params 67 os) (T10 K 67) = some r) : rN w (720 + (720 + (720 + (855 + N)))) (SE w.params 0 os) (T10 K 0) = some r := (seg_go (segGo_of (congrFun (congrFun (loop10_0 w) os) K)) (seg_go (segGo_of (congrFun (congrFun (loop10_16 w) os) K)) (seg_go (segGo_of (congrFun (congrFun (loop10_32 w) os) K)) (seg_go (segGo_of (congrFun (congrFun (loop10_48 w) os) K)) h))))
theorem seg10 : ∀ (w : World) (os : OsState), rN w 3099 (SD w.params os) (ps 10 1 ⟨10, 0, 10, 8⟩) = some (.next, (SF w.params os).abs, cM, ⟨11, 9, 11, 74⟩) := by
  refine byRow2 "special-get-raises" (fun w os => ?_) (fun w os => ?_)
  · exact seg_go (segGo_of (congrFun (pre10f w) os)) (loop10_all _ os _ (segRun_of (congrFun (end10f w) os)))
  · exact seg_go (segGo_of (congrFun (pre10t w) os)) (loop10_all _ os _ (segRun_of (congrFun (end10t w) os)))
theorem seg11 : ∀ w : World, (fun os => rn w 40 (SF w.params os) (ps 11 1 ⟨11, 9, 11, 74⟩)) = fun os => some (.next, SG w.params os, cM, ⟨13, 0, 13, 28⟩) := by intro w; kernel_rfl
def c12 : Code := match st 12 with | .For t _ b o _ => .forLoop t (.ref 28) b o envM | _ => cM
def p12 : Nat → Pos | 0 => ⟨14, 9, 14, 110⟩ | _ + 1 => ⟨15, 4, 15, 23⟩
def T12 (K : Result → Sem Fin) (i : Nat) : Thread := ⟨denote treeTable c12, c12, p12 i, [.ret K none false [] cM ⟨14, 9, 14, 110⟩ [], topFrame q0]⟩
def K12 (w : World) (os : OsState) : Result → Sem Fin := kOf (go w 10 (SG w.params os) (ps 12 1 ⟨13, 0, 13, 28⟩))
theorem pre12t : ∀ w : World, (fun os => go (W1 w true) 10 (SG (W1 w true).params os) (ps 12 1 ⟨13, 0, 13, 28⟩)) = fun os => some (SH (W1 w true).params 0 os, T12 (K12 (W1 w true) os) 0) := by intro w; kernel_rfl
theorem end12t : ∀ w : World, (fun os => rn (W1 w true) 40 (SH (W1 w true).params 95 os) (T12 (K12 (W1 w true) os) 95)) = fun os => some (.next, SI (W1 w true).params os, cM, ⟨14, 9, 14, 110⟩) := by intro w; kernel_rfl
theorem pre12f : ∀ w : World, (fun os => go (W1 w false) 10 (SG (W1 w false).params os) (ps 12 1 ⟨13, 0, 13, 28⟩)) = fun os => some (SH (W1 w false).params 0 os, T12 (K12 (W1 w false) os) 0) := by intro w; kernel_rfl
theorem end12f : ∀ w : World, (fun os => rn (W1 w false) 40 (SH (W1 w false).params 95 os) (T12 (K12 (W1 w false) os) 95)) = fun os => some (.next, SI (W1 w false).params os, cM, ⟨14, 9, 14, 110⟩) := by intro w; kernel_rfl
theorem loop12_0 : ∀ w : World, (fun os K => go w 720 (SH w.params 0 os) (T12 K 0)) = fun os K => some (SH w.params 16 os, T12 K 16) := by intro w; kernel_rfl
theorem loop12_16 : ∀ w : World, (fun os K => go w 720 (SH w.params 16 os) (T12 K 16)) = fun os K => some (SH w.params 32 os, T12 K 32) := by intro w; kernel_rfl
theorem loop12_32 : ∀ w : World, (fun os K => go w 720 (SH w.params 32 os) (T12 K 32)) = fun os K => some (SH w.params 48 os, T12 K 48) := by intro w; kernel_rfl
theorem loop12_48 : ∀ w : World, (fun os K => go w 720 (SH w.params 48 os) (T12 K 48)) = fun os K => some (SH w.params 64 os, T12 K 64) := by intro w; kernel_rfl
theorem loop12_64 : ∀ w : World, (fun os K => go w 720 (SH w.params 64 os) (T12 K 64)) = fun os K => some (SH w.params 80 os, T12 K 80) := by intro w; kernel_rfl
theorem loop12_80 : ∀ w : World, (fun os K => go w 675 (SH w.params 80 os) (T12 K 80)) = fun os K => some (SH w.params 95 os, T12 K 95) := by intro w; kernel_rfl
theorem loop12_all (w : World) (os : OsState) (K : Result → Sem Fin) {N : Nat} {r : Flow × Shared × Code × Pos} (h : rN w N (SH w.params 95 os) (T12 K 95) = some r) : rN w (720 + (720 + (720 + (720 + (720 + (675 + N)))))) (SH w.params 0 os) (T12 K 0) = some r := (seg_go (segGo_of (congrFun (congrFun (loop12_0 w) os) K)) (seg_go (segGo_of (congrFun (congrFun (loop12_16 w) os) K)) (seg_go (segGo_of (congrFun (congrFun (loop12_32 w) os) K)) (seg_go (segGo_of (congrFun (congrFun (loop12_48 w) os) K)) (seg_go (segGo_of (congrFun (congrFun (loop12_64 w) os) K)) (seg_go (segGo_of (congrFun (congrFun (loop12_80 w) os) K)) h))))))
theorem seg12 : ∀ (w : World) (os : OsState), rN w 4325 (SG w.params os) (ps 12 1 ⟨13, 0, 13, 28⟩) = some (.next, (SI w.params os).abs, cM, ⟨14, 9, 14, 110⟩) := by
  refine byRow2 "special-get-raises" (fun w os => ?_) (fun w os => ?_)
  · exact seg_go (segGo_of (congrFun (pre12f w) os)) (loop12_all _ os _ (segRun_of (congrFun (end12f w) os)))
  · exact seg_go (segGo_of (congrFun (pre12t w) os)) (loop12_all _ os _ (segRun_of (congrFun (end12t w) os)))
theorem seg13t : ∀ w : World, (fun os => rn (W1 w true) 640 (SI (W1 w true).params os) (ps 13 19 ⟨14, 9, 14, 110⟩)) = fun os => some (.next, SX (W1 w true).params os, cM, ⟨140, 0, 154, 60⟩) := by intro w; kernel_rfl
theorem seg13f : ∀ w : World, (fun os => rn (W1 w false) 640 (SI (W1 w false).params os) (ps 13 19 ⟨14, 9, 14, 110⟩)) = fun os => some (.next, SX (W1 w false).params os, cM, ⟨140, 0, 154, 60⟩) := by intro w; kernel_rfl
theorem seg13 : ∀ (w : World) (os : OsState), rN w 640 (SI w.params os) (ps 13 19 ⟨14, 9, 14, 110⟩) = some (.next, (SX w.params os).abs, cM, ⟨140, 0, 154, 60⟩) := by
  refine byRow2 "special-get-raises" (fun w os => ?_) (fun w os => ?_)
  · exact segRun_of (congrFun (seg13f w) os)
  · exact segRun_of (congrFun (seg13t w) os)
theorem fin_ : ∀ w : World, (fun os => topRun treeTable pr w 11 (some (.ref 6)) 3 (SX w.params os).abs ⟨doneF .next, cM, ⟨140, 0, 154, 60⟩, [topFrame q0]⟩) = fun os => some (SX w.params os).abs := by intro w; kernel_rfl
end MineN

end
/-! ## N2 -/
noncomputable section
set_option maxHeartbeats 0
open PySem PySem.W PyProof.Rows PySem.Calls
namespace MineN
theorem step_ {w : World} {i k n N : Nat} {s s' r : Shared} {pos p' : Pos} (h : segRun treeTable pr w 11 (some (.ref 6)) 1 n s (ps i k pos) = some (.next, s', cM, p'))
    (e : topRun treeTable pr w 11 (some (.ref 6)) N s' (restOf (bd.drop (i + k)) envM cM p' [topFrame q0]) = some r) :
    topRun treeTable pr w 11 (some (.ref 6)) (n + N) s (restOf (bd.drop i) envM cM pos [topFrame q0]) = some r := by
  rw [bd_cut i k]
  exact piece_app h e
theorem bd_end : bd.drop 32 = [] := by kernel_rfl
theorem run_ (w : World) (os : OsState) : topRun treeTable pr w 11 (some (.ref 6)) 17904 ⟨boot_heap w.params, Array.mk [], boot_drawn, boot_toks, os⟩ (topStub pr) = some (SX w.params os).abs := by
  have z : topRun treeTable pr w 11 (some (.ref 6)) 3 (SX w.params os).abs (restOf (bd.drop (13 + 19)) envM cM ⟨140, 0, 154, 60⟩ [topFrame q0]) = some (SX w.params os).abs := by
    rw [show bd.drop (13 + 19) = [] from bd_end]
    exact piece_nil (congrFun (fin_ w) os)
  have k := step_ (segRun_of (congrFun (seg0 w) os)) (step_ (seg2 w os) (step_ (segRun_of (congrFun (seg3 w) os)) (step_ (seg10 w os) (step_ (segRun_of (congrFun (seg11 w) os)) (step_ (seg12 w os) (step_ (seg13 w os) z))))))
  exact go_top (congrFun (pre_ w) os) (piece_block (b := bd) (env := envM) (congrFun (block_ w) os) k)
end MineN

end
/-! ## N3 -/
noncomputable section
set_option maxHeartbeats 0
open PySem PySem.W PyProof.Rows PySem.Calls
namespace MineN
def H1 (P : Params) : Heap := absHeap (tX P) 127 {}
theorem imp0 : ∀ w : World, importEnds treeTable (opening pr) w 600 (start (opening pr)).1 (start (opening pr)).2 = some ⟨boot_heap w.params, Array.mk [], boot_drawn, boot_toks, (start (opening pr)).1.os⟩ := by intro w; kernel_rfl
theorem fence0 : ∀ s : Shared, fenceModules? pr s = some s := by intro s; kernel_rfl
theorem open0 : ∀ w : World, (fencedOpening treeTable pr w 20000).map (fun s => (s.heap, s.gens, s.drawn, s.toks)) = some (boot_heap w.params, Array.mk [], boot_drawn, boot_toks) :=
  open_cut imp0 (by decide) (fun w => funext fun os => congrArg (Option.map fun s : Shared => (s.heap, s.gens, s.drawn, s.toks)) (fence0 ⟨boot_heap w.params, Array.mk [], boot_drawn, boot_toks, os⟩))
theorem size0 : ∀ w : World, ((boot_heap w.params).isNs mainGlobals && (Array.mk [] : Array GenState).size == 0, (boot_heap w.params).objs.size, (boot_heap w.params).nsMap mainGlobals "__annotations__") = (true, 11, some (.ref 6)) := by intro w; kernel_rfl
def vw : Program := view pr [31]
def loose : List Str := ["CRLF", "NL", "_QUOPRI_MAP", "_QUOPRI_HEADER_MAP", "_QUOPRI_BODY_MAP", "ascii_lowercase", "ascii_uppercase", "ascii_letters", "digits", "quote", "_QUOPRI_BODY_ENCODE_MAP", "body_encode", "_generate_overlap_table",
  "_law_wide", "_law_figures", "_law_long", "_law_line", "_law_marked", "_law_tails", "_law_found", "_law_kept", "_law_row", "_law_text"]
def addrs : List Nat := [3, 39, 43, 126, 125, 50, 49, 57, 56, 64, 63, 71, 70, 76, 75, 83, 82, 90, 89, 97, 96, 104, 103, 111, 110, 116, 115, 121, 120]
def K (P : Params) : Frag := [(3, o3 P), (39, lst x39 0), (43, o43), (126, o126), (125, o125), (50, o50), (49, o49), (57, o57), (56, o56), (64, o64), (63, o63), (71, o71), (70, o70), (76, o76), (75, o75), (83, o83), (82, o82), (90, o90), (89, o89), (97, o97), (96, o96), (104, o104), (103, o103), (111, o111), (110, o110), (116, o116), (115, o115), (121, o121), (120, o120)]
abbrev HK : Hook := kHook K addrs (fun _ => by kernel_rfl)
abbrev rw_ : RowW := OpenRow.toRowW PySem.Challenge.rw_tx0018_01.row
def Xt (s : Shared) : Bool := xlAt vw [] s && recOk (RowW.records rw_) s
theorem look1 : ∀ w : World, (fun os => (staticsOk (importedModules pr.main.body) (boot_heap w.params) (H1 w.params) && namesBound pr (H1 w.params) && gensDone ⟨H1 w.params, #[], {}, 1871, os⟩ && laidKept (boot_heap w.params) (H1 w.params))) = fun (_ : OsState) => true := by intro w; kernel_rfl
theorem look2 : ∀ w : World, (fun os => openSeen vw loose (importedModules pr.main.body) Xt true ⟨H1 w.params, #[], {}, 1871, os⟩) = fun (_ : OsState) => openGood vw loose := by intro w; kernel_rfl
theorem look3 : ∀ w : World, (fun os => HK.obs ⟨H1 w.params, #[], {}, 1871, os⟩) = fun (_ : OsState) => HK.val w := by intro w; kernel_rfl
end MineN

end
/-! ## N4 -/
noncomputable section
set_option maxHeartbeats 0
open PySem PySem.W PyProof.Rows PySem.Calls
namespace MineN
theorem left : LeftO pr vw loose Xt HK.obs HK.val 20000 :=
  LeftO.of_pieces (H₁ := H1) (gs₁ := #[]) (d₁ := {}) (k₁ := 1871) (M := 17904) open0 size0 (fun w os => run_ w os) (by decide) (fun w => funext fun os => Prod.ext (congrFun (look1 w) os) (Prod.ext (congrFun (look2 w) os) (congrFun (look3 w) os)))
theorem said : PySem.Challenge.rw_tx0018_01.wellSaid = true := by kernel_rfl
theorem hd : ∀ {d : DefRec} {kwd : List (Str × Expr)} (hdef : defOf vw PySem.Challenge.rw_tx0018_01.row.name = some (d, kwd)) (hp : PySem.Challenge.rw_tx0018_01.row.prog.theDef PySem.Challenge.rw_tx0018_01.row.name = some (d.params, d.body, d.scope))
    (hk : kwWritten? d.params.kwonlyargs d.params.kw_defaults = some kwd),
    WalkO vw loose (XL vw []) HK.says rw_ d kwd (fun f vs => PySem.call f vs) → PySem.Challenge.rw_tx0018_01.Holds := by
  intro d kwd hdef hp hk hc
  refine holds_law said fun said => holds_open (q := vw) (loose := loose) (Xt := Xt) (XP := XL vw []) (Yf := HK.obs) (Ya := HK.val) (YP := HK.says) (N := 20000) left HK.of HK.keeps (fun s e => xl_of s (Bool.and_eq_true_iff.mp e).1) XL.keeps hdef hp hk (fun s e => recFacts_of (Bool.and_eq_true_iff.mp e).2) (by rfl) said (by decide +kernel) ⟨rfl, rfl, rfl, rfl, rfl, by decide +kernel⟩ ?hw hc
  case hw => w_witness2
end MineN

end
/-! ## Q1 -/
section
/-! The plain law: lists of numbers alone, no program in sight. -/
namespace Mine

/-! ## matching by an overlap table -/
section
variable {α : Type} [DecidableEq α]

/-- `h` signs of the word end the text `s` -/
def Suf (P : List α) (s : List α) (h : Nat) : Prop := h ≤ P.length ∧ P.take h <:+ s

/-- the table: at `h - 1` the longest proper overlap of the first `h` signs -/
def TableOk (P : List α) (T : List Nat) : Prop :=
  T.length = P.length ∧ ∀ h, 1 ≤ h → h ≤ P.length → ∃ b, T[h - 1]? = some b ∧ b < h ∧ P.take b <:+ P.take h ∧ ∀ b', b' < h → P.take b' <:+ P.take h → b' ≤ b

theorem take_length {P : List α} {h : Nat} (hh : h ≤ P.length) : (P.take h).length = h := by simp; omega

/-- a longest one -/
def Best (P : List α) (s : List α) (h : Nat) : Prop := Suf P s h ∧ ∀ h', Suf P s h' → h' ≤ h

theorem suf_zero (P s : List α) : Suf P s 0 := ⟨Nat.zero_le _, by simp⟩

theorem take_succ_get {P : List α} {h : Nat} {x : α} (hx : P[h]? = some x) : P.take (h + 1) = P.take h ++ [x] := by
  rw [List.take_add_one, hx]; rfl

theorem suffix_snoc {a s : List α} {y x : α} : a ++ [y] <:+ s ++ [x] ↔ y = x ∧ a <:+ s := by
  constructor
  · rintro ⟨t, ht⟩
    rw [← List.append_assoc] at ht
    have := List.append_inj' ht rfl
    simp at this
    exact ⟨this.2, t, this.1⟩
  · rintro ⟨rfl, t, rfl⟩
    exact ⟨t, by simp⟩

theorem suf_snoc {P s : List α} {x : α} {h : Nat} : Suf P (s ++ [x]) (h + 1) ↔ h < P.length ∧ P[h]? = some x ∧ Suf P s h := by
  constructor
  · rintro ⟨h1, h2⟩
    have hlt : h < P.length := h1
    have hg : P[h]? = some P[h] := by simp [hlt]
    rw [take_succ_get hg] at h2
    obtain ⟨e, h3⟩ := suffix_snoc.mp h2
    exact ⟨hlt, by rw [hg, e], Nat.le_of_lt hlt, h3⟩
  · rintro ⟨hlt, hg, _, h3⟩
    refine ⟨hlt, ?_⟩
    rw [take_succ_get hg]
    exact suffix_snoc.mpr ⟨rfl, h3⟩

theorem suf_below {P s : List α} {h h' : Nat} (a : Suf P s h) (b : Suf P s h') (hlt : h' ≤ h) : P.take h' <:+ P.take h :=
  List.suffix_of_suffix_length_le b.2 a.2 (by rw [take_length a.1, take_length b.1]; exact hlt)

/-- one turn of the falling loop -/
theorem fall_step {P s : List α} {x : α} {T : List Nat} (ok : TableOk P T) {h b : Nat} (hs : Suf P s h)
    (hmax : ∀ h', h' < P.length → P[h']? = some x → Suf P s h' → h' ≤ h) (h0 : 0 < h) (hno : h = P.length ∨ P[h]? ≠ some x) (hb : T[h - 1]? = some b) :
    b < h ∧ Suf P s b ∧ ∀ h', h' < P.length → P[h']? = some x → Suf P s h' → h' ≤ b := by
  obtain ⟨b₁, e1, e2, e3, e4⟩ := ok.2 h h0 hs.1
  rw [hb] at e1
  obtain rfl := Option.some.inj e1
  refine ⟨e2, ⟨by have := hs.1; omega, e3.trans hs.2⟩, fun h' hl hx hs' => ?_⟩
  have h1 := hmax h' hl hx hs'
  have hne : h' ≠ h := by
    rintro rfl
    rcases hno with q | q
    · omega
    · exact q hx
  exact e4 h' (by omega) (suf_below hs hs' h1)

/-- the end of the falling loop -/
theorem fall_end {P s : List α} {x : α} {h : Nat} (hs : Suf P s h) (hmax : ∀ h', h' < P.length → P[h']? = some x → Suf P s h' → h' ≤ h)
    (hn : 0 < P.length) (hstop : h = 0 ∨ (h ≠ P.length ∧ P[h]? = some x)) :
    h < P.length ∧ Best P (s ++ [x]) (if P[h]? = some x then h + 1 else h) := by
  have hlt : h < P.length := by
    rcases hstop with q | q
    · omega
    · have := hs.1; omega
  refine ⟨hlt, ?_⟩
  by_cases hx : P[h]? = some x
  · rw [if_pos hx]
    refine ⟨suf_snoc.mpr ⟨hlt, hx, hs⟩, fun h' hs' => ?_⟩
    cases h' with
    | zero => omega
    | succ k =>
      obtain ⟨a, b, c⟩ := suf_snoc.mp hs'
      have := hmax k a b c
      omega
  · rw [if_neg hx]
    have h0 : h = 0 := hstop.elim id fun q => absurd q.2 hx
    subst h0
    refine ⟨suf_zero _ _, fun h' hs' => ?_⟩
    cases h' with
    | zero => omega
    | succ k =>
      obtain ⟨a, b, c⟩ := suf_snoc.mp hs'
      have := hmax k a b c
      have hk : k = 0 := by omega
      subst hk
      exact absurd b hx

/-- the falling loop of the reader -/
def fall (P : List α) (T : List Nat) (x : α) : Nat → Nat → Nat
  | 0, h => h
  | f + 1, h => if 0 < h ∧ (h = P.length ∨ P[h]? ≠ some x) then fall P T x f ((T[h - 1]?).getD 0) else h

theorem fall_spec {P : List α} {T : List Nat} {x : α} (ok : TableOk P T) (hn : 0 < P.length) {s : List α} : ∀ (f h : Nat), h ≤ f → Suf P s h →
    (∀ h', h' < P.length → P[h']? = some x → Suf P s h' → h' ≤ h) →
    fall P T x f h < P.length ∧ Best P (s ++ [x]) (if P[fall P T x f h]? = some x then fall P T x f h + 1 else fall P T x f h)
  | 0, h, hf, hs, hm => by
    have h0 : h = 0 := by omega
    subst h0
    exact fall_end hs hm hn (.inl rfl)
  | f + 1, h, hf, hs, hm => by
    unfold fall
    by_cases hc : 0 < h ∧ (h = P.length ∨ P[h]? ≠ some x)
    · rw [if_pos hc]
      obtain ⟨b, e1, e2, _⟩ := ok.2 h hc.1 hs.1
      obtain ⟨a1, a2, a3⟩ := fall_step ok hs hm hc.1 hc.2 e1
      rw [e1]
      exact fall_spec ok hn f b (by omega) a2 a3
    · rw [if_neg hc]
      refine fall_end hs hm hn ?_
      by_cases h0 : h = 0
      · exact .inl h0
      · refine .inr ⟨fun e => hc ⟨by omega, .inl e⟩, ?_⟩
        by_cases hx : P[h]? = some x
        · exact hx
        · exact absurd ⟨by omega, .inr hx⟩ hc

/-- one sign read -/
def readOne (P : List α) (T : List Nat) (h : Nat) (x : α) : Nat :=
  let k := fall P T x h h
  if P[k]? = some x then k + 1 else k

theorem readOne_best {P : List α} {T : List Nat} (ok : TableOk P T) (hn : 0 < P.length) {s : List α} {h : Nat} (hb : Best P s h) (x : α) : Best P (s ++ [x]) (readOne P T h x) :=
  (fall_spec ok hn h h (Nat.le_refl _) hb.1 fun h' _ _ hs => hb.2 h' hs).2

/-- the reader: the places at which it has the whole word -/
def readAll (P : List α) (T : List Nat) : List (α × Int) → Nat → List Int
  | [], _ => []
  | (x, p) :: r, h => (if readOne P T h x = P.length then [p] else []) ++ readAll P T r (readOne P T h x)

theorem best_whole {P s : List α} {h : Nat} (hb : Best P s h) : h = P.length ↔ P <:+ s := by
  constructor
  · intro e; have := hb.1.2; rw [e, List.take_length] at this; exact this
  · intro e
    have := hb.2 P.length ⟨Nat.le_refl _, by rw [List.take_length]; exact e⟩
    have := hb.1.1
    omega

/-- the ends at which the word stands, told directly -/
def endsOf (P : List α) : List (α × Int) → List α → List Int
  | [], _ => []
  | (x, p) :: r, s => (if P.reverse.isPrefixOf (x :: s) then [p] else []) ++ endsOf P r (x :: s)

theorem readAll_ends {P : List α} {T : List Nat} (ok : TableOk P T) (hn : 0 < P.length) : ∀ (S : List (α × Int)) (s : List α) (h : Nat), Best P s.reverse h → readAll P T S h = endsOf P S s
  | [], _, _, _ => rfl
  | (x, p) :: r, s, h, hb => by
    have hb' := readOne_best ok hn hb x
    have hb2 : Best P (x :: s).reverse (readOne P T h x) := by simpa using hb'
    unfold readAll endsOf
    rw [readAll_ends ok hn r (x :: s) _ hb2]
    congr 1
    have e : readOne P T h x = P.length ↔ P.reverse.isPrefixOf (x :: s) = true := by
      rw [best_whole hb2, List.isPrefixOf_iff_prefix, ← List.reverse_suffix, List.reverse_reverse]
    by_cases q : readOne P T h x = P.length
    · rw [if_pos q, if_pos (e.mp q)]
    · rw [if_neg q, if_neg (fun z => q (e.mpr z))]

theorem best_nil (P : List α) : Best P [] 0 := ⟨suf_zero _ _, fun h' hs => by
  have h1 := hs.2.length_le
  rw [take_length hs.1] at h1
  simpa using h1⟩
end

end Mine

end
/-! ## Q2 -/
section
namespace Mine
section
variable {α : Type} [DecidableEq α]

/-- the table, as far as its first `n` places -/
def TabUpTo (P : List α) (T : List Nat) : Prop :=
  ∀ h, 1 ≤ h → h ≤ T.length → ∃ b, T[h - 1]? = some b ∧ b < h ∧ P.take b <:+ P.take h ∧ ∀ b', b' < h → P.take b' <:+ P.take h → b' ≤ b

/-- the falling loop of the table's maker, at the sign of place `i` -/
def ovFall (P : List α) (T : List Nat) (i : Nat) : Nat → Nat → Nat
  | 0, idx => if P[i]? = P[idx]? then idx + 1 else 0
  | f + 1, idx => if P[i]? = P[idx]? then idx + 1 else if idx = 0 then 0 else ovFall P T i f ((T[idx - 1]?).getD 0)

theorem take_suf_iff {P : List α} {i b : Nat} {x : α} (hi : P[i]? = some x) (hb : b < i) : P.take (b + 1) <:+ P.take (i + 1) ↔ P[b]? = some x ∧ P.take b <:+ P.take i := by
  have hil : i < P.length := by
    rcases Nat.lt_or_ge i P.length with h | h
    · exact h
    · rw [List.getElem?_eq_none h] at hi; cases hi
  have hbl : b < P.length := by omega
  have hg : P[b]? = some P[b] := by simp [hbl]
  rw [take_succ_get hi, take_succ_get hg, suffix_snoc, hg]
  simp

theorem ovFall_spec {P : List α} {T : List Nat} {i : Nat} {x : α} (hT : TabUpTo P T) (hl : T.length = i) (hi : P[i]? = some x) : ∀ (f idx : Nat), idx ≤ f → idx < i → P.take idx <:+ P.take i →
    (∀ b, b < i → P[b]? = some x → P.take b <:+ P.take i → b ≤ idx) →
    ovFall P T i f idx < i + 1 ∧ P.take (ovFall P T i f idx) <:+ P.take (i + 1) ∧ ∀ b', b' < i + 1 → P.take b' <:+ P.take (i + 1) → b' ≤ ovFall P T i f idx := by
  have hil : i < P.length := by
    rcases Nat.lt_or_ge i P.length with h | h
    · exact h
    · rw [List.getElem?_eq_none h] at hi; cases hi
  have yes : ∀ idx, idx < i → P.take idx <:+ P.take i → (∀ b, b < i → P[b]? = some x → P.take b <:+ P.take i → b ≤ idx) → P[i]? = P[idx]? →
      idx + 1 < i + 1 ∧ P.take (idx + 1) <:+ P.take (i + 1) ∧ ∀ b', b' < i + 1 → P.take b' <:+ P.take (i + 1) → b' ≤ idx + 1 := by
    intro idx h1 h2 h3 h4
    refine ⟨by omega, (take_suf_iff hi h1).mpr ⟨by rw [← h4, hi], h2⟩, fun b' hb hs => ?_⟩
    cases b' with
    | zero => omega
    | succ k =>
      obtain ⟨a, b⟩ := (take_suf_iff hi (by omega)).mp hs
      have := h3 k (by omega) a b
      omega
  have no : (∀ b, b < i → P[b]? = some x → P.take b <:+ P.take i → b ≤ 0) → P[i]? ≠ P[0]? →
      0 < i + 1 ∧ P.take 0 <:+ P.take (i + 1) ∧ ∀ b', b' < i + 1 → P.take b' <:+ P.take (i + 1) → b' ≤ 0 := by
    intro h3 h4
    refine ⟨by omega, by simp, fun b' hb hs => ?_⟩
    cases b' with
    | zero => omega
    | succ k =>
      obtain ⟨a, b⟩ := (take_suf_iff hi (by omega)).mp hs
      have := h3 k (by omega) a b
      have hk : k = 0 := by omega
      subst hk
      rw [hi, a] at h4
      exact absurd rfl h4
  intro f
  induction f with
  | zero =>
    intro idx hf h1 h2 h3
    have h0 : idx = 0 := by omega
    subst h0
    unfold ovFall
    by_cases h4 : P[i]? = P[0]?
    · rw [if_pos h4]; exact yes 0 h1 h2 h3 h4
    · rw [if_neg h4]; exact no h3 h4
  | succ f ih =>
    intro idx hf h1 h2 h3
    unfold ovFall
    by_cases h4 : P[i]? = P[idx]?
    · rw [if_pos h4]; exact yes idx h1 h2 h3 h4
    · rw [if_neg h4]
      by_cases h0 : idx = 0
      · subst h0; rw [if_pos rfl]; exact no h3 h4
      · rw [if_neg h0]
        obtain ⟨b, e1, e2, e3, e4⟩ := hT idx (by omega) (by omega)
        rw [e1]
        refine ih b (by omega) (by omega) (e3.trans h2) fun b' hb hx hs => ?_
        have q := h3 b' hb hx hs
        have hne : b' ≠ idx := by rintro rfl; exact h4 (by rw [hi, hx])
        refine e4 b' (by omega) (List.suffix_of_suffix_length_le hs h2 ?_)
        rw [List.length_take, List.length_take]; omega

/-- the table's maker: `k` places more -/
def tabGo (P : List α) : Nat → List Nat → List Nat
  | 0, T => T
  | k + 1, T => tabGo P k (T ++ [ovFall P T T.length ((T[T.length - 1]?).getD 0) ((T[T.length - 1]?).getD 0)])

def overlap (P : List α) : List Nat := if P.length = 0 then [] else tabGo P (P.length - 1) [0]

theorem tabGo_length (P : List α) : ∀ (k : Nat) (T : List Nat), (tabGo P k T).length = T.length + k
  | 0, T => rfl
  | k + 1, T => by unfold tabGo; rw [tabGo_length P k]; simp; omega

theorem tabUpTo_snoc {P : List α} {T : List Nat} {v : Nat} (hT : TabUpTo P T)
    (hv : v < T.length + 1 ∧ P.take v <:+ P.take (T.length + 1) ∧ ∀ b', b' < T.length + 1 → P.take b' <:+ P.take (T.length + 1) → b' ≤ v) : TabUpTo P (T ++ [v]) := by
  intro h h1 h2
  simp at h2
  by_cases e : h = T.length + 1
  · subst e
    exact ⟨v, by simp, hv⟩
  · obtain ⟨b, q⟩ := hT h h1 (by omega)
    exact ⟨b, by rw [List.getElem?_append_left (by omega)]; exact q.1, q.2⟩

theorem tabGo_ok (P : List α) : ∀ (k : Nat) (T : List Nat), TabUpTo P T → 0 < T.length → T.length + k ≤ P.length → TabUpTo P (tabGo P k T)
  | 0, T, h, _, _ => h
  | k + 1, T, h, hp, hk => by
    unfold tabGo
    refine tabGo_ok P k _ ?_ (by simp) (by simp; omega)
    have hlt : T.length < P.length := by omega
    have hx : P[T.length]? = some P[T.length] := by simp [hlt]
    obtain ⟨b, e1, e2, e3, e4⟩ := h T.length hp (Nat.le_refl _)
    rw [e1]
    exact tabUpTo_snoc h (ovFall_spec h rfl hx b b (Nat.le_refl _) e2 e3 fun b' hb _ hs => e4 b' hb hs)

theorem overlap_ok (P : List α) : TableOk P (overlap P) := by
  unfold overlap
  by_cases h0 : P.length = 0
  · rw [if_pos h0]
    exact ⟨by simp [h0], fun h h1 h2 => by omega⟩
  · rw [if_neg h0]
    have hl : (tabGo P (P.length - 1) [0]).length = P.length := by rw [tabGo_length]; simp; omega
    refine ⟨hl, fun h h1 h2 => ?_⟩
    refine tabGo_ok P (P.length - 1) [0] ?_ (by simp) (by simp; omega) h h1 (by rw [hl]; exact h2)
    intro h h1 h2
    have : h = 1 := by simp at h2; omega
    subst this
    refine ⟨0, rfl, by omega, by simp, fun b' hb _ => by omega⟩

/-! ## the hits told from their beginnings -/

/-- at every sign: does the word begin here? then the place of its last sign -/
def hits (P : List α) : List (α × Int) → List Int
  | [] => []
  | y :: r => (if P.isPrefixOf ((y :: r).map (·.1)) then (((y :: r)[P.length - 1]?).map (·.2)).toList else []) ++ hits P r

/-- the hits whose beginning is one of the first signs told, of a text not yet read -/
theorem endsOf_append (P : List α) : ∀ (S R : List (α × Int)), endsOf P (S ++ R) [] = endsOf P S [] ++ endsOf P R (S.map (·.1)).reverse := by
  have gen : ∀ (S R : List (α × Int)) (s : List α), endsOf P (S ++ R) s = endsOf P S s ++ endsOf P R ((S.map (·.1)).reverse ++ s) := by
    intro S
    induction S with
    | nil => intro R s; simp [endsOf]
    | cons y S ih => intro R s; obtain ⟨x, p⟩ := y; simp only [List.cons_append, endsOf, ih, List.append_assoc, List.map_cons, List.reverse_cons, List.nil_append]
  intro S R
  rw [gen S R []]
  simp

theorem hits_snoc (P : List α) (hn : 0 < P.length) (x : α) (p : Int) : ∀ S : List (α × Int),
    hits P (S ++ [(x, p)]) = hits P S ++ (if P.reverse.isPrefixOf ((S ++ [(x, p)]).map (·.1)).reverse then [p] else []) := by
  intro S
  induction S with
  | nil =>
    simp only [List.nil_append, hits, List.map_cons, List.map_nil, List.reverse_cons, List.reverse_nil, List.append_nil]
    by_cases h1 : P.length = 1
    · obtain ⟨a, rfl⟩ := List.length_eq_one_iff.mp h1
      simp [List.isPrefixOf]
    · have e1 : P.isPrefixOf [x] = false := by
        rw [Bool.eq_false_iff]; intro h
        have := (List.isPrefixOf_iff_prefix.mp h).length_le
        simp at this; omega
      have e2 : P.reverse.isPrefixOf [x] = false := by
        rw [Bool.eq_false_iff]; intro h
        have := (List.isPrefixOf_iff_prefix.mp h).length_le
        simp at this; omega
      rw [e1, e2]; rfl
  | cons y S ih =>
    rw [List.cons_append, hits, ih, hits, List.append_assoc]
    have hlen : (S ++ [(x, p)]).length = S.length + 1 := by simp
    by_cases hw : P.length = S.length + 2
    · -- the whole of it
      have e1 : P.isPrefixOf ((y :: S).map (·.1)) = false := by
        rw [Bool.eq_false_iff]; intro h
        have := (List.isPrefixOf_iff_prefix.mp h).length_le
        simp at this; omega
      have e2 : P.reverse.isPrefixOf ((S ++ [(x, p)]).map (·.1)).reverse = false := by
        rw [Bool.eq_false_iff]; intro h
        have := (List.isPrefixOf_iff_prefix.mp h).length_le
        simp at this; omega
      have e3 : hits P S = [] := by
        have : ∀ R : List (α × Int), R.length < P.length → hits P R = [] := by
          intro R
          induction R with
          | nil => intro _; rfl
          | cons z R ih2 =>
            intro hl
            rw [hits, ih2 (by simp at hl; omega)]
            have : P.isPrefixOf ((z :: R).map (·.1)) = false := by
              rw [Bool.eq_false_iff]; intro h
              have := (List.isPrefixOf_iff_prefix.mp h).length_le
              simp at this hl; omega
            rw [this]; rfl
        exact this S (by omega)
      rw [e1, e2, e3]
      have e4 : (P.isPrefixOf ((y :: (S ++ [(x, p)])).map (·.1)) = true) ↔ (P.reverse.isPrefixOf ((y :: (S ++ [(x, p)])).map (·.1)).reverse = true) := by
        rw [List.isPrefixOf_iff_prefix, List.isPrefixOf_iff_prefix]
        have l1 : P.length = ((y :: (S ++ [(x, p)])).map (·.1)).length := by simp; omega
        constructor
        · intro h
          rw [h.eq_of_length l1]
          exact List.prefix_refl _
        · intro h
          have := h.eq_of_length (by simp; omega)
          rw [List.reverse_inj] at this
          rw [this]
          exact List.prefix_refl _
      have e5 : ((y :: (S ++ [(x, p)]))[P.length - 1]?).map (·.2) = some p := by
        rw [hw]
        simp
      rw [e5]
      by_cases q : P.isPrefixOf ((y :: (S ++ [(x, p)])).map (·.1)) = true
      · rw [if_pos q, if_pos (e4.mp q)]; simp
      · rw [if_neg q, if_neg fun z => q (e4.mpr z)]; simp
    · have e1 : P.isPrefixOf ((y :: (S ++ [(x, p)])).map (·.1)) = P.isPrefixOf ((y :: S).map (·.1)) := by
        rw [Bool.eq_iff_iff, List.isPrefixOf_iff_prefix, List.isPrefixOf_iff_prefix]
        rw [show (y :: (S ++ [(x, p)])).map (·.1) = (y :: S).map (·.1) ++ [x] by simp]
        constructor
        · intro h
          have hl := h.length_le
          simp at hl
          exact List.prefix_of_prefix_length_le h (List.prefix_append _ _) (by simp; omega)
        · intro h; exact h.trans (List.prefix_append _ _)
      have e2 : P.reverse.isPrefixOf ((y :: (S ++ [(x, p)])).map (·.1)).reverse = P.reverse.isPrefixOf ((S ++ [(x, p)]).map (·.1)).reverse := by
        rw [Bool.eq_iff_iff, List.isPrefixOf_iff_prefix, List.isPrefixOf_iff_prefix]
        rw [show ((y :: (S ++ [(x, p)])).map (·.1)).reverse = ((S ++ [(x, p)]).map (·.1)).reverse ++ [y.1] by simp]
        constructor
        · intro h
          have hl := h.length_le
          simp at hl
          exact List.prefix_of_prefix_length_le h (List.prefix_append _ _) (by simp; omega)
        · intro h; exact h.trans (List.prefix_append _ _)
      rw [e1, e2]
      congr 1
      by_cases q : P.isPrefixOf ((y :: S).map (·.1)) = true
      · rw [if_pos q, if_pos q]
        have hl := (List.isPrefixOf_iff_prefix.mp q).length_le
        simp at hl
        rw [show y :: (S ++ [(x, p)]) = (y :: S) ++ [(x, p)] by simp, List.getElem?_append_left (by simp; omega)]
      · rw [if_neg q, if_neg q]

theorem endsOf_hits (P : List α) (hn : 0 < P.length) : ∀ (n : Nat) (S : List (α × Int)), S.length = n → endsOf P S [] = hits P S := by
  intro n
  induction n with
  | zero => intro S h; have := List.length_eq_zero_iff.mp h; subst this; rfl
  | succ n ih =>
    intro S h
    have hne : S ≠ [] := by rintro rfl; simp at h
    obtain ⟨x, p, R, rfl⟩ : ∃ x p R, S = R ++ [(x, p)] := ⟨(S.getLast hne).1, (S.getLast hne).2, S.dropLast, (List.dropLast_concat_getLast hne).symm⟩
    rw [endsOf_append P, hits_snoc P hn, ih R (by simp at h; omega)]
    simp [endsOf]
end

/-- the reader, led by the table, finds every beginning of the word, in order -/
theorem readAll_hits (P : List Nat) (hn : 0 < P.length) (S : List (Nat × Int)) : readAll P (overlap P) S 0 = hits P S := by
  rw [readAll_ends (overlap_ok P) hn S [] 0 (best_nil P), endsOf_hits P hn _ S rfl]
end Mine

end
/-! ## Q3 -/
section
namespace Mine

/-! ## octets, rows, letters -/
def wideB (o : Int) : Bool := decide (o ≠ 10) && (decide (o < 32) || decide (o > 126) || decide (o = 61))
def hexI (d : Int) : Int := if d < 10 then 48 + d else 55 + d
def sizeI (o : Int) : Int := if wideB o then 3 else 1
def longI (row : List Int) : Int := (row.map sizeI).sum
def lineI (row : List Int) : List Int := row.takeWhile (fun o => decide (o ≠ 10))
def hiI (o : Int) : Int := hexI (o / 16)
def loI (o : Int) : Int := hexI (o % 16)
def enc1 (o : Int) : List Nat := if wideB o then [61, (hiI o).toNat, (loI o).toNat] else [o.toNat]
def enc (row : List Int) : List Nat := row.flatMap enc1
def Oct (o : Int) : Prop := 0 ≤ o ∧ o < 256

/-- is there a soft break ahead of the first octet of `o :: r`? -/
abbrev brk (longest c : Int) (o : Int) (r : List Int) : Prop := c + sizeI o ≥ longest ∧ c + longI (lineI (o :: r)) > longest

def markGo (longest : Int) : List Int → Int → Int → List (Int × Int)
  | [], _, _ => []
  | o :: r, p, c =>
    if o = 10 then (o, p + sizeI o - 1) :: markGo longest r (p + sizeI o) (-1 + sizeI o)
    else if brk longest c o r then (o, p + 2 + sizeI o - 1) :: markGo longest r (p + 2 + sizeI o) (0 + sizeI o)
    else (o, p + sizeI o - 1) :: markGo longest r (p + sizeI o) (c + sizeI o)

def letGo (longest : Int) : List Int → Int → List Nat
  | [], _ => []
  | o :: r, c =>
    if o = 10 then enc1 o ++ letGo longest r (-1 + sizeI o)
    else if brk longest c o r then 61 :: 10 :: (enc1 o ++ letGo longest r (0 + sizeI o))
    else enc1 o ++ letGo longest r (c + sizeI o)

def signs1 (m : Int × Int) : List (Nat × Int) :=
  if wideB m.1 then [(61, m.2 - 2), ((hiI m.1).toNat, m.2 - 1), ((loI m.1).toNat, m.2)] else [(m.1.toNat, m.2)]
def signs (ms : List (Int × Int)) : List (Nat × Int) := ms.flatMap signs1

/-- the letter as its reader meets it: each sign with its place, soft breaks passed over -/
def scan : List Nat → Int → List (Nat × Int)
  | [], _ => []
  | x :: r, p => if x = 61 then (match r with
      | y :: r' => if y = 10 then scan r' (p + 2) else (x, p) :: scan (y :: r') (p + 1)
      | [] => [(x, p)]) else (x, p) :: scan r (p + 1)

theorem scan_nil (p : Int) : scan [] p = [] := by unfold scan; rfl
theorem scan_soft (r : List Nat) (p : Int) : scan (61 :: 10 :: r) p = scan r (p + 2) := by rw [scan.eq_def]; simp
theorem scan_sign {x : Nat} {r : List Nat} {p : Int} (h : ¬ (x = 61 ∧ r.head? = some 10)) : scan (x :: r) p = (x, p) :: scan r (p + 1) := by
  rw [scan.eq_def]
  dsimp only
  by_cases hx : x = 61
  · rw [if_pos hx]
    cases r with
    | nil => simp [scan]
    | cons y r' =>
      have : y ≠ 10 := fun e => h ⟨hx, by simp [e]⟩
      simp only [if_neg this]
  · rw [if_neg hx]

theorem hexI_bounds {d : Int} (h0 : 0 ≤ d) (h1 : d < 16) : 48 ≤ hexI d ∧ hexI d ≤ 70 ∧ hexI d ≠ 61 ∧ hexI d ≠ 10 := by
  unfold hexI; split <;> omega
theorem hiI_bounds {o : Int} (h : Oct o) : 48 ≤ hiI o ∧ hiI o ≤ 70 ∧ hiI o ≠ 61 ∧ hiI o ≠ 10 := by
  obtain ⟨h0, h1⟩ := h
  exact hexI_bounds (by omega) (by omega)
theorem loI_bounds {o : Int} (_ : Oct o) : 48 ≤ loI o ∧ loI o ≤ 70 ∧ loI o ≠ 61 ∧ loI o ≠ 10 := by
  exact hexI_bounds (by omega) (by omega)
theorem hexI_inj {a b : Int} (ha : 0 ≤ a) (ha' : a < 16) (hb : 0 ≤ b) (hb' : b < 16) (h : hexI a = hexI b) : a = b := by
  unfold hexI at h; split at h <;> split at h <;> omega
theorem narrow_ne {o : Int} (h : wideB o = false) : o ≠ 61 := by
  rintro rfl; revert h; decide
theorem wide_ne {o : Int} (h : wideB o = true) : o ≠ 10 := by
  rintro rfl; revert h; decide
theorem figure_narrow {d : Int} (h0 : 0 ≤ d) (h1 : d < 16) : wideB (hexI d) = false := by
  have := hexI_bounds h0 h1
  unfold wideB
  simp only [Bool.and_eq_false_iff, Bool.or_eq_false_iff, decide_eq_false_iff_not]
  right; omega
theorem hi_narrow {o : Int} (h : Oct o) : wideB (hiI o) = false := figure_narrow (by have := h.1; omega) (by have := h.2; omega)
theorem lo_narrow {o : Int} (h : Oct o) : wideB (loI o) = false := figure_narrow (by omega) (by omega)

theorem scan_enc1 {o : Int} (h : Oct o) (r : List Nat) (p : Int) : scan (enc1 o ++ r) p = signs1 (o, p + sizeI o - 1) ++ scan r (p + sizeI o) := by
  unfold enc1 signs1 sizeI
  cases hw : wideB o with
  | true =>
    have b1 := hiI_bounds h
    have b2 := loI_bounds h
    simp only [if_true, List.cons_append, List.nil_append]
    rw [scan_sign (by simp; omega), scan_sign (by intro q; omega), scan_sign (by intro q; omega)]
    have e1 : p + 3 - 1 - 2 = p := by omega
    have e2 : p + 3 - 1 - 1 = p + 1 := by omega
    have e3 : p + 3 - 1 = p + 1 + 1 := by omega
    have e4 : p + 3 = p + 1 + 1 + 1 := by omega
    rw [e1, e2, e3, e4]
  | false =>
    have b := narrow_ne hw
    have := h.1
    simp only [Bool.false_eq_true, if_false, List.cons_append, List.nil_append]
    rw [scan_sign (by intro q; omega)]
    have e1 : p + 1 - 1 = p := by omega
    rw [e1]

theorem scan_letGo (longest : Int) : ∀ (row : List Int) (p c : Int), (∀ o ∈ row, Oct o) → scan (letGo longest row c) p = signs (markGo longest row p c)
  | [], p, c, _ => by simp [letGo, markGo, scan_nil, signs]
  | o :: r, p, c, h => by
    have ho := h o (.head _)
    have hr : ∀ x ∈ r, Oct x := fun x hx => h x (.tail _ hx)
    unfold letGo markGo
    by_cases h10 : o = 10
    · rw [if_pos h10, if_pos h10, scan_enc1 ho, scan_letGo longest r _ _ hr]; rfl
    · rw [if_neg h10, if_neg h10]
      by_cases hb : brk longest c o r
      · rw [if_pos hb, if_pos hb, scan_soft, scan_enc1 ho, scan_letGo longest r _ _ hr]; rfl
      · rw [if_neg hb, if_neg hb, scan_enc1 ho, scan_letGo longest r _ _ hr]; rfl

theorem enc1_length (o : Int) : ((enc1 o).length : Int) = sizeI o := by
  unfold enc1 sizeI; split <;> rfl
theorem sizeI_pos (o : Int) : 1 ≤ sizeI o ∧ sizeI o ≤ 3 := by unfold sizeI; split <;> omega

theorem enc_length : ∀ row : List Int, ((enc row).length : Int) = longI row
  | [] => rfl
  | o :: r => by
    have ih := enc_length r
    have e1 := enc1_length o
    unfold enc longI at *
    simp only [List.flatMap_cons, List.length_append, List.map_cons, List.sum_cons]
    omega

/-- the letter ends with the last octet's last sign -/
theorem letGo_length (longest : Int) : ∀ (row : List Int) (p c : Int) (q : Int × Int), (markGo longest row p c).getLast? = some q → p + (letGo longest row c).length = q.2 + 1 := by
  intro row
  induction row with
  | nil => intro _ _ _ h; simp [markGo] at h
  | cons o r ih =>
    intro p c q h
    have one : ∀ (o' : Int × Int) (p' c' : Int), p' = o'.2 + 1 → (o' :: markGo longest r p' c').getLast? = some q → p' + (letGo longest r c').length = q.2 + 1 := by
      intro o' p' c' hp hl
      cases hm : markGo longest r p' c' with
      | nil =>
        have : r = [] := by
          cases r with
          | nil => rfl
          | cons a b => exfalso; unfold markGo at hm; split at hm <;> first | cases hm | (split at hm <;> cases hm)
        subst this
        rw [hm] at hl
        simp at hl
        subst hl
        simp [letGo, hp]
      | cons x y =>
        exact ih p' c' q (by rw [hm]; rw [hm] at hl; rw [List.getLast?_cons_cons] at hl; exact hl)
    have e1 := enc1_length o
    unfold markGo at h
    unfold letGo
    by_cases h10 : o = 10
    · rw [if_pos h10] at h ⊢
      have := one _ _ _ (by simp) h
      rw [List.length_append]; omega
    · rw [if_neg h10] at h ⊢
      by_cases hb : brk longest c o r
      · rw [if_pos hb] at h ⊢
        have := one _ _ _ (by simp) h
        simp only [List.length_cons, List.length_append]; omega
      · rw [if_neg hb] at h ⊢
        have := one _ _ _ (by simp) h
        rw [List.length_append]; omega

/-! ## the code is free of prefixes -/
theorem enc1_ne (o : Int) : enc1 o ≠ [] := by unfold enc1; split <;> simp

theorem enc1_head {a b : Int} (ha : Oct a) (hb : Oct b) {u v : List Nat} (h : enc1 a ++ u = enc1 b ++ v) : a = b ∧ u = v := by
  unfold enc1 at h
  obtain ⟨a0, a1⟩ := ha
  obtain ⟨b0, b1⟩ := hb
  cases hwa : wideB a <;> cases hwb : wideB b <;> simp only [hwa, hwb, if_true, Bool.false_eq_true, if_false, List.cons_append, List.nil_append, List.cons.injEq] at h
  · exact ⟨by omega, h.2⟩
  · have := narrow_ne hwa; omega
  · have := narrow_ne hwb; omega
  · obtain ⟨_, e1, e2, e3⟩ := h
    have x1 := hiI_bounds (o := a) ⟨a0, a1⟩
    have x2 := hiI_bounds (o := b) ⟨b0, b1⟩
    have x3 := loI_bounds (o := a) ⟨a0, a1⟩
    have x4 := loI_bounds (o := b) ⟨b0, b1⟩
    have y1 : a / 16 = b / 16 := hexI_inj (by omega) (by omega) (by omega) (by omega) (show hiI a = hiI b by omega)
    have y2 : a % 16 = b % 16 := hexI_inj (by omega) (by omega) (by omega) (by omega) (show loI a = loI b by omega)
    exact ⟨by omega, e3⟩

theorem enc_prefix : ∀ (w t : List Int), (∀ o ∈ w, Oct o) → (∀ o ∈ t, Oct o) → (enc w <+: enc t ↔ w <+: t)
  | [], t, _, _ => by simp [enc]
  | a :: w, [], _, _ => by
    have := enc1_ne a
    simp [enc, this]
  | a :: w, b :: t, hw, ht => by
    have ih := enc_prefix w t (fun o h => hw o (.tail _ h)) (fun o h => ht o (.tail _ h))
    have ha := hw a (.head _)
    have hb := ht b (.head _)
    show enc1 a ++ enc w <+: enc1 b ++ enc t ↔ _
    constructor
    · rintro ⟨r, hr⟩
      rw [List.append_assoc] at hr
      obtain ⟨rfl, h2⟩ := enc1_head ha hb hr
      exact (List.cons_prefix_cons.mpr ⟨rfl, ih.mp ⟨r, h2⟩⟩)
    · intro h
      obtain ⟨rfl, h2⟩ := List.cons_prefix_cons.mp h
      obtain ⟨r, hr⟩ := ih.mpr h2
      exact ⟨r, by rw [List.append_assoc, hr]⟩

/-! ## the tails, and the places that are due -/
def tails1 (o p : Int) (r : List (Int × Int)) : List (List (Int × Int)) :=
  ((o, p) :: r) :: (if wideB o then [(hiI o, p - 1) :: (loI o, p) :: r, (loI o, p) :: r] else [])
def tailsP : List (Int × Int) → List (List (Int × Int))
  | [] => []
  | (o, p) :: r => tails1 o p r ++ tailsP r

def due1 (word : List Int) (tail : List (Int × Int)) : List Int :=
  if (tail.take word.length).map (·.1) = word then ((tail[word.length - 1]?).map (·.2)).toList else []
def dueOf (word : List Int) (tails : List (List (Int × Int))) : List Int := tails.flatMap (due1 word)

theorem signs_fst : ∀ ms : List (Int × Int), (signs ms).map (·.1) = enc (ms.map (·.1))
  | [] => rfl
  | m :: ms => by
    have ih := signs_fst ms
    show (signs1 m ++ signs ms).map (·.1) = enc1 m.1 ++ enc (ms.map (·.1))
    rw [List.map_append, ih]
    congr 1
    unfold signs1 enc1
    split <;> rfl

theorem signs1_length (m : Int × Int) : (signs1 m).length = (enc1 m.1).length := by unfold signs1 enc1; split <;> rfl
theorem signs1_last (m : Int × Int) : (signs1 m)[(enc1 m.1).length - 1]? = some ((signs1 m).getLast (by unfold signs1; split <;> simp)) ∧ ((signs1 m)[(enc1 m.1).length - 1]?).map (·.2) = some m.2 := by
  unfold signs1 enc1; split <;> simp

/-- the place of the word's last sign is that of its last octet -/
theorem place_last : ∀ (w : List Int) (t : List (Int × Int)), w ≠ [] → w <+: t.map (·.1) → ((signs t)[(enc w).length - 1]?).map (·.2) = (t[w.length - 1]?).map (·.2)
  | [], _, h, _ => absurd rfl h
  | a :: w, [], _, h => by simp at h
  | a :: w, m :: t, _, h => by
    obtain ⟨e, h2⟩ := List.cons_prefix_cons.mp (by simpa using h : a :: w <+: m.1 :: t.map (·.1))
    subst e
    have hl : 0 < (enc1 m.1).length := List.length_pos_iff.mpr (enc1_ne _)
    show ((signs1 m ++ signs t)[(enc1 m.1 ++ enc w).length - 1]?).map (·.2) = _
    cases w with
    | nil =>
      have := (signs1_last m).2
      simp only [enc, List.flatMap_nil, List.append_nil, List.length_cons, List.length_nil]
      rw [List.getElem?_append_left (by rw [signs1_length]; omega), this]
      rfl
    | cons b w =>
      have ih := place_last (b :: w) t (by simp) h2
      have hl2 : 0 < (enc (b :: w)).length := by
        show 0 < (enc1 b ++ enc w).length
        rw [List.length_append]
        have : 0 < (enc1 b).length := List.length_pos_iff.mpr (enc1_ne _)
        omega
      rw [List.getElem?_append_right (by rw [signs1_length, List.length_append]; omega)]
      rw [signs1_length, List.length_append, show (enc1 m.1).length + (enc (b :: w)).length - 1 - (enc1 m.1).length = (enc (b :: w)).length - 1 by omega, ih]
      simp

theorem prefix_take {w t : List Int} : t.take w.length = w ↔ w <+: t := by
  constructor
  · intro h; exact ⟨t.drop w.length, (congrArg (· ++ t.drop w.length) h.symm).trans (List.take_append_drop _ _)⟩
  · rintro ⟨r, rfl⟩; simp

/-- one suffix of the letter's signs against one tail -/
theorem hit_due {w : List Int} {t : List (Int × Int)} (hw : ∀ o ∈ w, Oct o) (ht : ∀ m ∈ t, Oct m.1) (hne : w ≠ []) :
    (if (enc w).isPrefixOf ((signs t).map (·.1)) then (((signs t)[(enc w).length - 1]?).map (·.2)).toList else []) = due1 w t := by
  have e : (enc w).isPrefixOf ((signs t).map (·.1)) = true ↔ (t.take w.length).map (·.1) = w := by
    rw [List.isPrefixOf_iff_prefix, signs_fst, enc_prefix w _ hw (by intro o ho; obtain ⟨m, hm, rfl⟩ := List.mem_map.mp ho; exact ht m hm), List.map_take, prefix_take]
  unfold due1
  by_cases h : (t.take w.length).map (·.1) = w
  · rw [if_pos (e.mpr h), if_pos h, place_last w t hne (by rw [List.map_take, prefix_take] at h; exact h)]
  · rw [if_neg h, if_neg fun z => h (e.mp z)]

theorem signs_narrow {o p : Int} (h : wideB o = false) (r : List (Int × Int)) : signs ((o, p) :: r) = (o.toNat, p) :: signs r := by
  show signs1 (o, p) ++ signs r = _
  unfold signs1; simp [h]

theorem hits_tails (w : List Int) (hw : ∀ o ∈ w, Oct o) (hne : w ≠ []) : ∀ ms : List (Int × Int), (∀ m ∈ ms, Oct m.1) → hits (enc w) (signs ms) = dueOf w (tailsP ms)
  | [], _ => rfl
  | (o, p) :: r, h => by
    have ih := hits_tails w hw hne r fun m hm => h m (.tail _ hm)
    have ho : Oct o := h (o, p) (.head _)
    have key := fun (t : List (Int × Int)) ht => hit_due (w := w) (t := t) hw ht hne
    show _ = (tails1 o p r ++ tailsP r).flatMap (due1 w)
    rw [List.flatMap_append]
    show _ = _ ++ dueOf w (tailsP r)
    rw [← ih]
    unfold tails1
    cases hwd : wideB o with
    | false =>
      have k := key ((o, p) :: r) h
      rw [signs_narrow hwd] at k ⊢
      rw [hits, k]
      simp
    | true =>
      have k1 := key ((o, p) :: r) h
      have lo : Oct (loI o) := by have := loI_bounds ho; exact ⟨by omega, by omega⟩
      have hi : Oct (hiI o) := by have := hiI_bounds ho; exact ⟨by omega, by omega⟩
      have h3 : ∀ m ∈ (loI o, p) :: r, Oct m.1 := by
        intro m hm
        cases hm with
        | head => exact lo
        | tail _ hm => exact h m (.tail _ hm)
      have h2 : ∀ m ∈ (hiI o, p - 1) :: (loI o, p) :: r, Oct m.1 := by
        intro m hm
        cases hm with
        | head => exact hi
        | tail _ hm => exact h3 m hm
      have k2 := key _ h2
      have k3 := key _ h3
      have e3 : signs ((loI o, p) :: r) = ((loI o).toNat, p) :: signs r := signs_narrow (lo_narrow ho) r
      have e2 : signs ((hiI o, p - 1) :: (loI o, p) :: r) = ((hiI o).toNat, p - 1) :: ((loI o).toNat, p) :: signs r := by rw [signs_narrow (hi_narrow ho), e3]
      have e1 : signs ((o, p) :: r) = (61, p - 2) :: ((hiI o).toNat, p - 1) :: ((loI o).toNat, p) :: signs r := by
        show signs1 (o, p) ++ signs r = _
        unfold signs1; simp [hwd]
      rw [e1] at k1 ⊢
      rw [e2] at k2
      rw [e3] at k3
      rw [hits, k1, hits, k2, hits, k3]
      simp

theorem markGo_fst (longest : Int) : ∀ (row : List Int) (p c : Int), (markGo longest row p c).map (·.1) = row
  | [], _, _ => rfl
  | o :: r, p, c => by
    unfold markGo
    split
    · simp [markGo_fst longest r]
    · split <;> simp [markGo_fst longest r]

/-- what is found is what is due -/
theorem found_due (longest : Int) (row word : List Int) (hr : ∀ o ∈ row, Oct o) (hw : ∀ o ∈ word, Oct o) (hne : word ≠ []) :
    readAll (enc word) (overlap (enc word)) (scan (letGo longest row 0) 0) 0 = dueOf word (tailsP (markGo longest row 0 0)) := by
  rw [scan_letGo longest row 0 0 hr, readAll_hits _ ?_, hits_tails word hw hne]
  · intro m hm
    exact hr _ (by rw [← markGo_fst longest row 0 0]; exact List.mem_map_of_mem hm)
  · cases word with
    | nil => exact absurd rfl hne
    | cons a w =>
      show 0 < (enc1 a ++ enc w).length
      rw [List.length_append]
      have : 0 < (enc1 a).length := List.length_pos_iff.mpr (enc1_ne _)
      omega
end Mine

end
/-! ## F1 -/
section
open PySem PySem.W PyProof.Rows PySem.Calls
namespace Mine

/-! ## a part of a heap -/
open Classical in
noncomputable def only (h : Heap) (p : Addr → Prop) : Heap :=
  { h with objs := h.objs.mapIdx fun i o => if p i then o else { o with data := .freed } }

theorem only_get_pos {h : Heap} {p : Addr → Prop} {b : Addr} (hb : p b) : (only h p).get? b = h.get? b := by
  unfold only Heap.get?
  simp only [Array.getElem?_mapIdx]
  cases h.objs[b]? with
  | none => rfl
  | some o => simp [hb]
theorem only_get_neg {h : Heap} {p : Addr → Prop} {b : Addr} (hb : ¬ p b) : (only h p).get? b = none := by
  unfold only Heap.get?
  simp only [Array.getElem?_mapIdx]
  cases h.objs[b]? with
  | none => rfl
  | some o => simp [hb]

/-! ## data -/
inductive D where
  | none
  | int (i : Int)
  | bool (b : Bool)
  | str (x : Str)
  | list (ds : List D)
  | tup (ds : List D)
  | val (v : Value)

mutual
/-- the value is the datum, read deeply in the heap `g` -/
inductive Is (g : Heap) : Value → D → Prop
  | none : Is g .none .none
  | int (i : Int) (t : Tok) : Is g (.int i t) (.int i)
  | bool (b : Bool) : Is g (.bool b) (.bool b)
  | str (x : Str) (t : Tok) : Is g (.str x t) (.str x)
  | list {l : Addr} {vs : List Value} {ds : List D} : g.IsList l vs.toArray → IsAll g vs ds → Is g (.ref l) (.list ds)
  | tup {l : Addr} {vs : List Value} {ds : List D} : IsTup g l vs.toArray → IsAll g vs ds → Is g (.ref l) (.tup ds)
  | val (v : Value) : Is g v (.val v)
inductive IsAll (g : Heap) : List Value → List D → Prop
  | nil : IsAll g [] []
  | cons {v : Value} {d : D} {vs : List Value} {ds : List D} : Is g v d → IsAll g vs ds → IsAll g (v :: vs) (d :: ds)
end

theorem IsList.keeps {h h' : Heap} {l : Addr} {xs : Array Value} (x : h.IsList l xs) (k : h.StaysIn h') : h'.IsList l xs := let ⟨o, ho, r⟩ := x; ⟨o, k _ _ ho, r⟩

mutual
theorem Is.keeps {g g' : Heap} (k : g.StaysIn g') : ∀ {v : Value} {d : D}, Is g v d → Is g' v d
  | _, _, .none => .none
  | _, _, .int i t => .int i t
  | _, _, .bool b => .bool b
  | _, _, .str x t => .str x t
  | _, _, .list a b => .list (IsList.keeps a k) (IsAll.keeps k b)
  | _, _, .tup a b => .tup (IsTup.keeps a k) (IsAll.keeps k b)
  | _, _, .val v => .val v
theorem IsAll.keeps {g g' : Heap} (k : g.StaysIn g') : ∀ {vs : List Value} {ds : List D}, IsAll g vs ds → IsAll g' vs ds
  | _, _, .nil => .nil
  | _, _, .cons a b => .cons (Is.keeps k a) (IsAll.keeps k b)
end

theorem IsAll.length {g : Heap} : ∀ {vs : List Value} {ds : List D}, IsAll g vs ds → vs.length = ds.length
  | _, _, .nil => rfl
  | _, _, .cons _ b => by simp [IsAll.length b]
theorem IsAll.get {g : Heap} : ∀ {vs : List Value} {ds : List D} {i : Nat} {d : D}, IsAll g vs ds → ds[i]? = some d → ∃ v, vs[i]? = some v ∧ Is g v d
  | _, _, _, _, .nil, h => by simp at h
  | _, _, 0, _, .cons a _, h => by simp at h; subst h; exact ⟨_, rfl, a⟩
  | _, _, i + 1, _, .cons _ b, h => by simp at h; obtain ⟨v, e, r⟩ := IsAll.get b h; exact ⟨v, by simpa using e, r⟩
theorem IsAll.get' {g : Heap} : ∀ {vs : List Value} {ds : List D} {i : Nat} {v : Value}, IsAll g vs ds → vs[i]? = some v → ∃ d, ds[i]? = some d ∧ Is g v d
  | _, _, _, _, .nil, h => by simp at h
  | _, _, 0, _, .cons a _, h => by simp at h; subst h; exact ⟨_, rfl, a⟩
  | _, _, i + 1, _, .cons _ b, h => by simp at h; obtain ⟨v, e, r⟩ := IsAll.get' b h; exact ⟨v, by simpa using e, r⟩
theorem IsAll.append {g : Heap} : ∀ {vs ws : List Value} {ds es : List D}, IsAll g vs ds → IsAll g ws es → IsAll g (vs ++ ws) (ds ++ es)
  | _, _, _, _, .nil, h => h
  | _, _, _, _, .cons a b, h => .cons a (IsAll.append b h)
theorem IsAll.take {g : Heap} : ∀ {vs : List Value} {ds : List D} (n : Nat), IsAll g vs ds → IsAll g (vs.take n) (ds.take n)
  | _, _, 0, _ => by simp; exact .nil
  | _, _, _ + 1, .nil => by simp; exact .nil
  | _, _, n + 1, .cons a b => by simp; exact .cons a (IsAll.take n b)
theorem IsAll.drop {g : Heap} : ∀ {vs : List Value} {ds : List D} (n : Nat), IsAll g vs ds → IsAll g (vs.drop n) (ds.drop n)
  | _, _, 0, h => h
  | _, _, _ + 1, .nil => by simp; exact .nil
  | _, _, n + 1, .cons _ b => by simp; exact IsAll.drop n b
theorem IsAll.set {g : Heap} : ∀ {vs : List Value} {ds : List D} (n : Nat) {v : Value} {d : D}, IsAll g vs ds → Is g v d → IsAll g (vs.set n v) (ds.set n d)
  | _, _, _, _, _, .nil, _ => by simp; exact .nil
  | _, _, 0, _, _, .cons _ b, h => by simp; exact .cons h b
  | _, _, n + 1, _, _, .cons a b, h => by simp; exact .cons a (IsAll.set n b h)
theorem IsAll.map {g : Heap} {α : Type} (f : α → Value) (e : α → D) (h : ∀ x, Is g (f x) (e x)) : ∀ l : List α, IsAll g (l.map f) (l.map e)
  | [] => .nil
  | x :: l => .cons (h x) (IsAll.map f e h l)

theorem is_int {g : Heap} {v : Value} {i : Int} (h : Is g v (.int i)) : ∃ t, v = .int i t := by cases h; exact ⟨_, rfl⟩
theorem is_str {g : Heap} {v : Value} {x : Str} (h : Is g v (.str x)) : ∃ t, v = .str x t := by cases h; exact ⟨_, rfl⟩
theorem is_bool {g : Heap} {v : Value} {b : Bool} (h : Is g v (.bool b)) : v = .bool b := by cases h; rfl
theorem is_none {g : Heap} {v : Value} (h : Is g v .none) : v = .none := by cases h; rfl
theorem is_val {g : Heap} {v w : Value} (h : Is g v (.val w)) : v = w := by cases h; rfl
theorem is_list {g : Heap} {v : Value} {ds : List D} (h : Is g v (.list ds)) : ∃ l vs, v = .ref l ∧ g.IsList l vs.toArray ∧ IsAll g vs ds := by cases h; exact ⟨_, _, rfl, by assumption, by assumption⟩
theorem is_tup {g : Heap} {v : Value} {ds : List D} (h : Is g v (.tup ds)) : ∃ l vs, v = .ref l ∧ IsTup g l vs.toArray ∧ IsAll g vs ds := by cases h; exact ⟨_, _, rfl, by assumption, by assumption⟩

def intsD (ns : List Int) : List D := ns.map .int
theorem intsAre_of {g : Heap} : ∀ {vs : List Value} {ns : List Int}, IsAll g vs (intsD ns) → IntsAre vs ns
  | _, [], .nil => .nil
  | _, n :: ns, .cons a b => by obtain ⟨t, rfl⟩ := is_int a; exact .cons n t (intsAre_of b)
theorem of_intsAre {g : Heap} : ∀ {vs : List Value} {ns : List Int}, IntsAre vs ns → IsAll g vs (intsD ns)
  | _, _, .nil => .nil
  | _, _, .cons n t h => .cons (.int n t) (of_intsAre h)

/-! ## the state of a def's frame -/
/-- what every heap of the call bears: the text's own objects, the built-ins' names -/
structure Base (K : Frag) (p : Program) (loose : List Str) (mg mb : Str → Option Value) (h : Heap) : Prop where
  X : K.In h
  T : TopRead p loose mg mb h
theorem Base.keeps {K : Frag} {p : Program} {loose : List Str} {mg mb : Str → Option Value} {h h' : Heap} (B : Base K p loose mg mb h) (k : h.StaysIn h') : Base K p loose mg mb h' := ⟨B.X.keeps k, B.T.keeps k⟩

abbrev Vars := List (Str × D)
abbrev Tmps := List (Value × D)
abbrev Muts := List (Addr × Bool × List D)

/-- a list object; with `true`: one without attributes of its own -/
def LK (b : Bool) (h : Heap) (a : Addr) (xs : Array Value) : Prop := ∃ o n, h.get? a = some o ∧ o.cls = .type "list" ∧ (b = true → o.dict = none) ∧ o.data = .seq xs n
theorem LK.keeps {b : Bool} {h h' : Heap} {a : Addr} {xs : Array Value} (x : LK b h a xs) (k : h.StaysIn h') : LK b h' a xs := let ⟨o, n, ho, r⟩ := x; ⟨o, n, k _ _ ho, r⟩
theorem LK.extBut {b : Bool} {h h' : Heap} {a c : Addr} {xs : Array Value} (x : LK b h a xs) (hs : Heap.ExtBut c h h') (hac : a ≠ c) : LK b h' a xs := let ⟨o, n, ho, r⟩ := x; ⟨o, n, hs a o hac ho, r⟩
theorem LK.isList {b : Bool} {h : Heap} {a : Addr} {xs : Array Value} (x : LK b h a xs) : h.IsList a xs := let ⟨o, n, ho, hc, _, hd⟩ := x; ⟨o, ho, hc, n, hd⟩
theorem LK.lt {b : Bool} {h : Heap} {a : Addr} {xs : Array Value} (x : LK b h a xs) : a < h.objs.size := let ⟨_, _, ho, _⟩ := x; Heap.lt_size ho
theorem LK.plain {h : Heap} {a : Addr} {xs : Array Value} (x : LK true h a xs) : PlainL h a xs := let ⟨o, n, ho, hc, hn, hd⟩ := x; ⟨o, n, ho, hc, hn rfl, hd⟩
theorem LK.of_plain {b : Bool} {h : Heap} {a : Addr} {xs : Array Value} (x : PlainL h a xs) : LK b h a xs := let ⟨o, n, ho, hc, hn, hd⟩ := x; ⟨o, n, ho, hc, fun _ => hn, hd⟩
theorem LK.of_list {h : Heap} {a : Addr} {xs : Array Value} (x : h.IsList a xs) : LK false h a xs := let ⟨o, ho, hc, n, hd⟩ := x; ⟨o, n, ho, hc, (fun e => nomatch e), hd⟩
abbrev Fixs := List (Addr × Obj)

structure In (Ba : Heap → Prop) (g₀ : Heap) (s₀ : Shared) (L : Addr) (σ : Vars) (τ : Tmps) (mu : Muts) (fx : Fixs) (g : Heap) (m : Str → Option Value) (s : Shared) : Prop where
  same : ∃ h tk, s = { s₀ with heap := h, toks := tk }
  keep : s₀.heap.StaysIn s.heap
  gk : g₀.StaysIn g
  gh : g.StaysIn s.heap
  new : ∀ b o, g.get? b = some o → (∃ o', g₀.get? b = some o') ∨ s₀.heap.objs.size ≤ b
  base : Ba g
  ns : s.heap.Ns L m
  Ls : s₀.heap.objs.size ≤ L
  Lg : g.get? L = none
  vars : ∀ x d, σ.lookup x = some d → ∃ v, m x = some v ∧ Is g v d
  tmps : ∀ p ∈ τ, Is g p.1 p.2
  muts : ∀ p ∈ mu, (∃ vs : List Value, LK p.2.1 s.heap p.1 vs.toArray ∧ IsAll g vs p.2.2) ∧ g.get? p.1 = none ∧ s₀.heap.objs.size ≤ p.1 ∧ p.1 ≠ L
  fixs : ∀ p ∈ fx, s.heap.get? p.1 = some p.2 ∧ g.get? p.1 = none ∧ s₀.heap.objs.size ≤ p.1 ∧ p.1 ≠ L
  apart : (mu.map (·.1) ++ fx.map (·.1)).Nodup

def St (Ba : Heap → Prop) (g₀ : Heap) (s₀ : Shared) (L : Addr) (σ : Vars) (τ : Tmps) (mu : Muts) (fx : Fixs) (s : Shared) : Prop :=
  ∃ g m, In Ba g₀ s₀ L σ τ mu fx g m s

section
variable {Ba : Heap → Prop} {g₀ : Heap} {s₀ : Shared} {L : Addr} {σ σ' : Vars} {τ τ' : Tmps} {mu : Muts} {fx : Fixs} {s : Shared} {g : Heap} {m : Str → Option Value}

theorem size_le {h h' : Heap} {b : Addr} (k : h.StaysIn h') (e : ∃ o, h.get? b = some o) : b < h'.objs.size := let ⟨_, e⟩ := e; Heap.lt_size (k _ _ e)

theorem In.L_lt (I : In Ba g₀ s₀ L σ τ mu fx g m s) : L < s.heap.objs.size := I.ns.lt
theorem In.s0_lt (I : In Ba g₀ s₀ L σ τ mu fx g m s) : s₀.heap.objs.size < s.heap.objs.size := Nat.lt_of_le_of_lt I.Ls I.L_lt

/-- weaker names, weaker temporaries -/
theorem St.weaken (S : St Ba g₀ s₀ L σ τ mu fx s) (h : ∀ x d, σ'.lookup x = some d → σ.lookup x = some d) (ht : ∀ p ∈ τ', p ∈ τ) : St Ba g₀ s₀ L σ' τ' mu fx s := by
  obtain ⟨g, m, I⟩ := S
  exact ⟨g, m, { I with vars := fun x d e => I.vars x d (h x d e), tmps := fun p hp => I.tmps p (ht p hp) }⟩
theorem St.vars (S : St Ba g₀ s₀ L σ τ mu fx s) (h : ∀ x d, σ'.lookup x = some d → σ.lookup x = some d) : St Ba g₀ s₀ L σ' τ mu fx s := S.weaken h fun _ h => h
theorem St.drop {x : Value × D} (S : St Ba g₀ s₀ L σ (x :: τ) mu fx s) : St Ba g₀ s₀ L σ τ mu fx s := S.weaken (fun _ _ h => h) fun _ h => .tail _ h

/-- the heap grows, the stable part too -/
theorem In.grow (I : In Ba g₀ s₀ L σ τ mu fx g m s) (hB : ∀ h h' : Heap, h.StaysIn h' → Ba h → Ba h') {h' g' : Heap} {tk : Nat} (k : s.heap.StaysIn h') (kg : g.StaysIn g') (kh : g'.StaysIn h')
    (hn : ∀ b o, g'.get? b = some o → (∃ o', g.get? b = some o') ∨ s.heap.objs.size ≤ b) : In Ba g₀ s₀ L σ τ mu fx g' m { s with heap := h', toks := tk } where
  same := by obtain ⟨h, t, e⟩ := I.same; exact ⟨h', tk, by rw [e]⟩
  keep := fun b o e => k _ _ (I.keep b o e)
  gk := fun b o e => kg _ _ (I.gk b o e)
  gh := kh
  new := fun b o e => by
    rcases hn b o e with ⟨o', e'⟩ | q
    · exact I.new b o' e'
    · exact .inr (Nat.le_trans (Nat.le_of_lt I.s0_lt) q)
  base := hB _ _ kg I.base
  ns := I.ns.keeps k
  Ls := I.Ls
  Lg := by
    cases e : g'.get? L with
    | none => rfl
    | some o =>
      rcases hn L o e with ⟨o', e'⟩ | q
      · rw [I.Lg] at e'; cases e'
      · exact absurd I.L_lt (Nat.not_lt.mpr q)
  vars := fun x d e => let ⟨v, a, b⟩ := I.vars x d e; ⟨v, a, b.keeps kg⟩
  tmps := fun p hp => (I.tmps p hp).keeps kg
  muts := fun p hp => by
    obtain ⟨⟨vs, a, b⟩, c, d, e⟩ := I.muts p hp
    refine ⟨⟨vs, a.keeps k, b.keeps kg⟩, ?_, d, e⟩
    cases q : g'.get? p.1 with
    | none => rfl
    | some o =>
      rcases hn p.1 o q with ⟨o', e'⟩ | q
      · rw [c] at e'; cases e'
      · exact absurd a.lt (Nat.not_lt.mpr q)
  fixs := fun p hp => by
    obtain ⟨a, c, d, e⟩ := I.fixs p hp
    refine ⟨k _ _ a, ?_, d, e⟩
    cases q : g'.get? p.1 with
    | none => rfl
    | some o =>
      rcases hn p.1 o q with ⟨o', e'⟩ | q
      · rw [c] at e'; cases e'
      · exact absurd (Heap.lt_size a) (Nat.not_lt.mpr q)
  apart := I.apart

/-- a step that makes nothing that is kept -/
theorem In.step (I : In Ba g₀ s₀ L σ τ mu fx g m s) {h' : Heap} {tk : Nat} (k : s.heap.StaysIn h') : In Ba g₀ s₀ L σ τ mu fx g m { s with heap := h', toks := tk } where
  same := by obtain ⟨h, t, e⟩ := I.same; exact ⟨h', tk, by rw [e]⟩
  keep := fun b o e => k _ _ (I.keep b o e)
  gk := I.gk
  gh := fun b o e => k _ _ (I.gh b o e)
  new := I.new
  base := I.base
  ns := I.ns.keeps k
  Ls := I.Ls
  Lg := I.Lg
  vars := I.vars
  tmps := I.tmps
  muts := fun p hp => let ⟨⟨vs, a, b⟩, r⟩ := I.muts p hp; ⟨⟨vs, a.keeps k, b⟩, r⟩
  fixs := fun p hp => let ⟨a, r⟩ := I.fixs p hp; ⟨k _ _ a, r⟩
  apart := I.apart
theorem In.tok (I : In Ba g₀ s₀ L σ τ mu fx g m s) {tk : Nat} : In Ba g₀ s₀ L σ τ mu fx g m { s with toks := tk } := I.step (h' := s.heap) fun _ _ e => e

theorem In.push (I : In Ba g₀ s₀ L σ τ mu fx g m s) {v : Value} {d : D} (h : Is g v d) : In Ba g₀ s₀ L σ ((v, d) :: τ) mu fx g m s :=
  { I with tmps := fun p hp => by cases hp with | head => exact h | tail _ hp => exact I.tmps p hp }
theorem In.pop {x : Value × D} (I : In Ba g₀ s₀ L σ (x :: τ) mu fx g m s) : In Ba g₀ s₀ L σ τ mu fx g m s := { I with tmps := fun p hp => I.tmps p (.tail _ hp) }
theorem In.st (I : In Ba g₀ s₀ L σ τ mu fx g m s) : St Ba g₀ s₀ L σ τ mu fx s := ⟨g, m, I⟩

theorem stays_push (h : Heap) (o : Obj) : h.StaysIn (h.push o) := fun _ _ e => Heap.get?_push_of_some o e

/-- a new object that nobody changes joins the stable part -/
theorem In.alloc (I : In Ba g₀ s₀ L σ τ mu fx g m s) (hB : ∀ h h' : Heap, h.StaysIn h' → Ba h → Ba h') {h' : Heap} {tk : Nat} {a : Addr} {o : Obj} (k : s.heap.StaysIn h') (ha : h'.get? a = some o) (hs : s.heap.objs.size ≤ a) :
    ∃ g', In Ba g₀ s₀ L σ τ mu fx g' m { s with heap := h', toks := tk } ∧ g.StaysIn g' ∧ g'.get? a = some o := by
  refine ⟨only h' fun b => (∃ o', g.get? b = some o') ∨ b = a, I.grow hB k ?_ ?_ ?_, ?_, ?_⟩
  · intro b o' e
    rw [only_get_pos (.inl ⟨o', e⟩)]
    exact k _ _ (I.gh _ _ e)
  · intro b o' e
    by_cases hb : (∃ o', g.get? b = some o') ∨ b = a
    · rwa [only_get_pos hb] at e
    · rw [only_get_neg hb] at e; cases e
  · intro b o' e
    by_cases hb : (∃ o', g.get? b = some o') ∨ b = a
    · rcases hb with q | q
      · exact .inl q
      · exact .inr (q ▸ hs)
    · rw [only_get_neg hb] at e; cases e
  · intro b o' e
    rw [only_get_pos (.inl ⟨o', e⟩)]
    exact k _ _ (I.gh _ _ e)
  · rw [only_get_pos (.inr rfl)]; exact ha
end
end Mine

end
/-! ## F2 -/
section
open PySem PySem.W PyProof.Rows PySem.Calls
namespace Mine

abbrev Fa : Value → Shared → Prop := fun _ _ => False

theorem wp_any {α : Type} {M : Model} {A : Around} {t : Sem α} {Q Q' : α → Shared → Prop} {E : Value → Shared → Prop} {s : Shared} (h : wpAny M A t Q Fa s) (hq : ∀ a s, Q a s → Q' a s) : wpAny M A t Q' E s :=
  wpAny_mono h hq fun _ _ f => f.elim

/-- the fixed part of a frame -/
structure Fc where
  prog : Program
  w : World
  A : Around
  env : Env
  Ba : Heap → Prop
  g₀ : Heap
  s₀ : Shared

structure Fc.Ok (c : Fc) (K : Frag) (p : Program) (loose : List Str) (mg mb : Str → Option Value) (k : Nat) : Prop where
  base : c.Ba = Base K p loose mg mb
  handled : c.A.handled = none
  depth : c.A.depth + k ≤ 400
  units : c.A.units + 10 * k ≤ 400
  kind : c.env.scope.kind = .function
  globals : c.env.globals = mainGlobals
  builtins : c.env.builtins = builtinsNs

section
variable {c : Fc} {K : Frag} {p : Program} {loose : List Str} {mg mb : Str → Option Value} {k : Nat}
variable {σ σ' : Vars} {τ : Tmps} {mu : Muts} {fx : Fixs} {s : Shared}

abbrev Fc.S (c : Fc) (σ : Vars) (τ : Tmps) (mu : Muts) (fx : Fixs) (s : Shared) : Prop := St c.Ba c.g₀ c.s₀ c.env.locals σ τ mu fx s
abbrev Fc.wp {α : Type} (c : Fc) (t : Sem α) (Q : α → Shared → Prop) (s : Shared) : Prop := wpAny (model c.prog c.w) c.A t Q Fa s

theorem Fc.Ok.mono (O : c.Ok K p loose mg mb k) : ∀ h h' : Heap, h.StaysIn h' → c.Ba h → c.Ba h' := by
  rw [O.base]; exact fun _ _ k b => b.keeps k
theorem Fc.Ok.at (O : c.Ok K p loose mg mb k) {g : Heap} {m : Str → Option Value} (I : In c.Ba c.g₀ c.s₀ c.env.locals σ τ mu fx g m s) : Base K p loose mg mb s.heap := by
  have := I.base
  rw [O.base] at this
  exact this.keeps I.gh

/-- an expression gives a datum -/
def Fc.Ev (c : Fc) (σ : Vars) (mu : Muts) (fx : Fixs) (e : Expr) (d : D) : Prop :=
  ∀ τ s, c.S σ τ mu fx s → c.wp (eval e c.env) (fun v s' => c.S σ ((v, d) :: τ) mu fx s') s
/-- a test gives a truth value -/
def Fc.Tr (c : Fc) (σ : Vars) (mu : Muts) (fx : Fixs) (e : Expr) (b : Bool) : Prop :=
  ∀ τ s, c.S σ τ mu fx s → c.wp (isTrue e c.env (eval e c.env)) (fun x s' => x = b ∧ c.S σ τ mu fx s') s
/-- an operation on one or two data -/
def Fc.Op1 (c : Fc) (σ : Vars) (mu : Muts) (fx : Fixs) (t : Value → Sem Value) (d₁ d : D) : Prop :=
  ∀ τ s v₁, c.S σ ((v₁, d₁) :: τ) mu fx s → c.wp (t v₁) (fun v s' => c.S σ ((v, d) :: τ) mu fx s') s
def Fc.Op2 (c : Fc) (σ : Vars) (mu : Muts) (fx : Fixs) (t : Value → Value → Sem Value) (d₁ d₂ d : D) : Prop :=
  ∀ τ s v₁ v₂, c.S σ ((v₂, d₂) :: (v₁, d₁) :: τ) mu fx s → c.wp (t v₁ v₂) (fun v s' => c.S σ ((v, d) :: τ) mu fx s') s

/-! ### names and constants -/
theorem ev_local {x : Str} {d : D} {pos : Pos} (O : c.Ok K p loose mg mb k) (hσ : σ.lookup x = some d) (hl : c.env.kindOf x = some .local) (hd : (x == ("__debug__" : Str)) = false) : c.Ev σ mu fx (.Name x pos) d := by
  intro τ s S
  obtain ⟨g, m, I⟩ := S
  obtain ⟨v, hv, hi⟩ := I.vars x d hσ
  exact wpAny_Name (wpAny_loadName_local O.kind hl I.ns hv (I.push hi).st) hd

theorem ev_global {x : Str} {v : Value} {pos : Pos} (O : c.Ok K p loose mg mb k) (e : nsIn K mainGlobals x = some (some v)) (hx : c.env.kindOf x = some .globalImplicit) (hd : (x == ("__debug__" : Str)) = false) :
    c.Ev σ mu fx (.Name x pos) (.val v) := by
  intro τ s S
  obtain ⟨g, m, I⟩ := S
  have B := O.at I
  exact Name_function_global O.kind hx (loadGlobal_global (by rw [O.globals]; exact B.T.g) (mg_of B.X B.T.g e) (I.push (.val v)).st) hd

/-- a name of the top that stands for a datum of the written part -/
theorem ev_globalD {x : Str} {v : Value} {d : D} {pos : Pos} (O : c.Ok K p loose mg mb k) (e : nsIn K mainGlobals x = some (some v)) (hd' : ∀ g : Heap, K.In g → Is g v d) (hx : c.env.kindOf x = some .globalImplicit) (hd : (x == ("__debug__" : Str)) = false) :
    c.Ev σ mu fx (.Name x pos) d := by
  intro τ s S
  obtain ⟨g, m, I⟩ := S
  have B := O.at I
  refine Name_function_global O.kind hx (loadGlobal_global (by rw [O.globals]; exact B.T.g) (mg_of B.X B.T.g e) (I.push (hd' g ?_)).st) hd
  have := I.base
  rw [O.base] at this
  exact this.X

theorem ev_builtin {x : Str} {v : Value} {pos : Pos} (O : c.Ok K p loose mg mb k) (e : nsIn K mainGlobals x = some none) (hv : bootBuiltins x = some v) (hn : x ≠ "__name__") (hx : c.env.kindOf x = some .globalImplicit) (hd : (x == ("__debug__" : Str)) = false) :
    c.Ev σ mu fx (.Name x pos) (.val v) := by
  intro τ s S
  obtain ⟨g, m, I⟩ := S
  have B := O.at I
  exact Name_function_global O.kind hx (loadGlobal_builtin (by rw [O.globals]; exact B.T.g) (mg_none_of B.X B.T.g e) (by rw [O.builtins]; exact B.T.b) ((B.T.builtins x hn).trans hv) (I.push (.val v)).st) hd

theorem ev_int {i : Int} {n : Nat} {pos : Pos} : c.Ev σ mu fx (.Constant (.int i) n pos) (.int i) := by
  rintro τ s ⟨g, m, I⟩
  exact wpAny_Constant_int (I.tok.push (.int i _)).st
theorem ev_str {x : Str} {n : Nat} {pos : Pos} : c.Ev σ mu fx (.Constant (.str x) n pos) (.str x) := by
  rintro τ s ⟨g, m, I⟩
  exact Constant_str (I.tok.push (.str x _)).st

/-! ### operators -/
theorem ev_bin {e₁ e₂ : Expr} {op : Operator} {d₁ d₂ d : D} {pos : Pos} (h₁ : c.Ev σ mu fx e₁ d₁) (h₂ : c.Ev σ mu fx e₂ d₂) (h : c.Op2 σ mu fx (binaryOp op) d₁ d₂ d) : c.Ev σ mu fx (.BinOp e₁ op e₂ pos) d := by
  intro τ s S
  exact wpAny_BinOp (wpAny_mono (h₁ τ s S) (fun v₁ s₁ S₁ => wpAny_mono (h₂ _ s₁ S₁) (fun v₂ s₂ S₂ => h τ s₂ v₁ v₂ S₂) fun _ _ f => f) fun _ _ f => f)

theorem ev_cmp {e₁ e₂ : Expr} {op : CmpOp} {d₁ d₂ d : D} {pos : Pos} (h₁ : c.Ev σ mu fx e₁ d₁) (h₂ : c.Ev σ mu fx e₂ d₂) (h : c.Op2 σ mu fx (compareOp op) d₁ d₂ d) (hm : behindInMarks op e₂ = false) : c.Ev σ mu fx (.Compare e₁ [op] [e₂] pos) d := by
  intro τ s S
  exact wpAny_Compare1 (wpAny_mono (h₁ τ s S) (fun v₁ s₁ S₁ => wpAny_mono (h₂ _ s₁ S₁) (fun v₂ s₂ S₂ => h τ s₂ v₁ v₂ S₂) fun _ _ f => f) fun _ _ f => f) hm

theorem tr_cmp {e₁ e₂ : Expr} {op : CmpOp} {d₁ d₂ : D} {b : Bool} {pos : Pos} (h₁ : c.Ev σ mu fx e₁ d₁) (h₂ : c.Ev σ mu fx e₂ d₂) (h : c.Op2 σ mu fx (compareOp op) d₁ d₂ (.bool b)) (hm : behindInMarks op e₂ = false) : c.Tr σ mu fx (.Compare e₁ [op] [e₂] pos) b := by
  intro τ s S
  refine wpAny_isTrue_Compare1 (wpAny_mono (h₁ τ s S) (fun v₁ s₁ S₁ => wpAny_mono (h₂ _ s₁ S₁) (fun v₂ s₂ S₂ => wpAny_mono (h τ s₂ v₁ v₂ S₂) (fun v s₃ S₃ => ?_) fun _ _ f => f) fun _ _ f => f) fun _ _ f => f) hm
  obtain ⟨g, m, I⟩ := S₃
  obtain rfl := is_bool (I.tmps _ (.head _))
  exact wpAny_truthy_bool ⟨rfl, I.pop.st⟩

/-- a test whose value is a bool -/
theorem tr_bool {e : Expr} {b : Bool} (h : c.Ev σ mu fx e (.bool b)) (he : isTrue e c.env (eval e c.env) = (do let v ← eval e c.env; standAt e.pos; holding [v] (truthy v))) : c.Tr σ mu fx e b := by
  intro τ s S
  refine isTrue_plain (wpAny_mono (h τ s S) (fun v s₁ S₁ => ?_) fun _ _ f => f) he
  obtain ⟨g, m, I⟩ := S₁
  obtain rfl := is_bool (I.tmps _ (.head _))
  exact wpAny_truthy_bool ⟨rfl, I.pop.st⟩

theorem tr_not {e : Expr} {b : Bool} {pos : Pos} (h : c.Tr σ mu fx e b) : c.Tr σ mu fx (.UnaryOp .Not e pos) (!b) := by
  intro τ s S
  refine isTrue_not (wpAny_mono (h τ s S) (fun x s₁ S₁ => ?_) fun _ _ f => f)
  obtain ⟨rfl, S₁⟩ := S₁
  exact ⟨rfl, S₁⟩
theorem tr_and_nil {pos : Pos} : c.Tr σ mu fx (.BoolOp .And [] pos) true := fun _ _ S => isTrue_and_nil ⟨rfl, S⟩
theorem tr_or_nil {pos : Pos} : c.Tr σ mu fx (.BoolOp .Or [] pos) false := fun _ _ S => isTrue_or_nil ⟨rfl, S⟩
theorem tr_and {e : Expr} {es : List Expr} {a b : Bool} {pos : Pos} (h₁ : c.Tr σ mu fx e a) (h₂ : a = true → c.Tr σ mu fx (.BoolOp .And es pos) b) : c.Tr σ mu fx (.BoolOp .And (e :: es) pos) (a && b) := by
  intro τ s S
  refine isTrue_and (wpAny_mono (h₁ τ s S) (fun x s₁ S₁ => ?_) fun _ _ f => f)
  obtain ⟨rfl, S₁⟩ := S₁
  cases x with
  | true => exact h₂ rfl τ s₁ S₁
  | false => exact ⟨rfl, S₁⟩
theorem tr_or {e : Expr} {es : List Expr} {a b : Bool} {pos : Pos} (h₁ : c.Tr σ mu fx e a) (h₂ : a = false → c.Tr σ mu fx (.BoolOp .Or es pos) b) : c.Tr σ mu fx (.BoolOp .Or (e :: es) pos) (a || b) := by
  intro τ s S
  refine isTrue_or (wpAny_mono (h₁ τ s S) (fun x s₁ S₁ => ?_) fun _ _ f => f)
  obtain ⟨rfl, S₁⟩ := S₁
  cases x with
  | false => exact h₂ rfl τ s₁ S₁
  | true => exact ⟨rfl, S₁⟩

/-- «a and b», «a or b» of truth values, as a value -/
theorem ev_and1 {e : Expr} {d : D} {pos : Pos} (h : c.Ev σ mu fx e d) {op : BoolOp} : c.Ev σ mu fx (.BoolOp op [e] pos) d := fun τ s S => BoolOp_one (h τ s S)
theorem ev_and {e e₂ : Expr} {es : List Expr} {a b : Bool} {pos : Pos} (h₁ : c.Ev σ mu fx e (.bool a)) (h₂ : a = true → c.Ev σ mu fx (.BoolOp .And (e₂ :: es) pos) (.bool b)) : c.Ev σ mu fx (.BoolOp .And (e :: e₂ :: es) pos) (.bool (a && b)) := by
  intro τ s S
  refine BoolOp_and (wpAny_mono (h₁ τ s S) (fun v s₁ S₁ => ?_) fun _ _ f => f)
  obtain ⟨g, m, I⟩ := S₁
  obtain rfl := is_bool (I.tmps _ (.head _))
  refine wpAny_truthy_bool ?_
  cases a with
  | true => exact h₂ rfl τ s₁ I.pop.st
  | false => exact I.st
theorem ev_or {e e₂ : Expr} {es : List Expr} {a b : Bool} {pos : Pos} (h₁ : c.Ev σ mu fx e (.bool a)) (h₂ : a = false → c.Ev σ mu fx (.BoolOp .Or (e₂ :: es) pos) (.bool b)) : c.Ev σ mu fx (.BoolOp .Or (e :: e₂ :: es) pos) (.bool (a || b)) := by
  intro τ s S
  refine BoolOp_or (wpAny_mono (h₁ τ s S) (fun v s₁ S₁ => ?_) fun _ _ f => f)
  obtain ⟨g, m, I⟩ := S₁
  obtain rfl := is_bool (I.tmps _ (.head _))
  refine wpAny_truthy_bool ?_
  cases a with
  | false => exact h₂ rfl τ s₁ I.pop.st
  | true => exact I.st

theorem ev_if {t e₁ e₂ : Expr} {b : Bool} {d : D} {pos : Pos} (ht : c.Tr σ mu fx t b) (h₁ : b = true → c.Ev σ mu fx e₁ d) (h₂ : b = false → c.Ev σ mu fx e₂ d) : c.Ev σ mu fx (.IfExp t e₁ e₂ pos) d := by
  intro τ s S
  refine IfExp_ (wpAny_mono (ht τ s S) (fun x s₁ S₁ => ?_) fun _ _ f => f)
  obtain ⟨rfl, S₁⟩ := S₁
  cases x with
  | true => exact h₁ rfl τ s₁ S₁
  | false => exact h₂ rfl τ s₁ S₁

/-! ### ints -/
theorem two_ints {a b : Int} {v₁ v₂ : Value} {g : Heap} {m : Str → Option Value} (I : In c.Ba c.g₀ c.s₀ c.env.locals σ ((v₂, .int b) :: (v₁, .int a) :: τ) mu fx g m s) : ∃ t u, v₁ = .int a t ∧ v₂ = .int b u := by
  obtain ⟨u, rfl⟩ := is_int (I.tmps _ (.head _))
  obtain ⟨t, rfl⟩ := is_int (I.tmps _ (.tail _ (.head _)))
  exact ⟨t, u, rfl, rfl⟩
theorem op_add {a b : Int} : c.Op2 σ mu fx (binaryOp .Add) (.int a) (.int b) (.int (a + b)) := by
  rintro τ s v₁ v₂ ⟨g, m, I⟩
  obtain ⟨t, u, rfl, rfl⟩ := two_ints I
  exact PyProof.Rows.add_int (I.pop.pop.tok.push (.int _ _)).st
theorem op_sub {a b : Int} : c.Op2 σ mu fx (binaryOp .Sub) (.int a) (.int b) (.int (a - b)) := by
  rintro τ s v₁ v₂ ⟨g, m, I⟩
  obtain ⟨t, u, rfl, rfl⟩ := two_ints I
  exact PyProof.Rows.sub_int (I.pop.pop.tok.push (.int _ _)).st
theorem op_mod {a b : Int} (hb : b ≠ 0) (hp : Builtin.divisionGoesByPylong a b = false) : c.Op2 σ mu fx (binaryOp .Mod) (.int a) (.int b) (.int (a.fmod b)) := by
  rintro τ s v₁ v₂ ⟨g, m, I⟩
  obtain ⟨t, u, rfl, rfl⟩ := two_ints I
  exact PyProof.Rows.mod_int hb (I.pop.pop.tok.push (.int _ _)).st
theorem op_floordiv {a b : Int} (hb : b ≠ 0) (hp : Builtin.divisionGoesByPylong a b = false) : c.Op2 σ mu fx (binaryOp .FloorDiv) (.int a) (.int b) (.int (a.fdiv b)) := by
  rintro τ s v₁ v₂ ⟨g, m, I⟩
  obtain ⟨t, u, rfl, rfl⟩ := two_ints I
  exact PyProof.Rows.floordiv_int hb (I.pop.pop.tok.push (.int _ _)).st (.inl hp)
theorem op_eq {a b : Int} : c.Op2 σ mu fx (compareOp .Eq) (.int a) (.int b) (.bool (a == b)) := by
  rintro τ s v₁ v₂ ⟨g, m, I⟩
  obtain ⟨t, u, rfl, rfl⟩ := two_ints I
  exact PyProof.Rows.eq_int (I.pop.pop.push (.bool _)).st
theorem op_ne {a b : Int} : c.Op2 σ mu fx (compareOp .NotEq) (.int a) (.int b) (.bool (a != b)) := by
  rintro τ s v₁ v₂ ⟨g, m, I⟩
  obtain ⟨t, u, rfl, rfl⟩ := two_ints I
  exact PyProof.Rows.ne_int (I.pop.pop.push (.bool _)).st
theorem op_lt {a b : Int} : c.Op2 σ mu fx (compareOp .Lt) (.int a) (.int b) (.bool (decide (a < b))) := by
  rintro τ s v₁ v₂ ⟨g, m, I⟩
  obtain ⟨t, u, rfl, rfl⟩ := two_ints I
  exact PyProof.Rows.lt_int (I.pop.pop.push (.bool _)).st
theorem op_gt {a b : Int} : c.Op2 σ mu fx (compareOp .Gt) (.int a) (.int b) (.bool (decide (b < a))) := by
  rintro τ s v₁ v₂ ⟨g, m, I⟩
  obtain ⟨t, u, rfl, rfl⟩ := two_ints I
  exact PyProof.Rows.gt_int (I.pop.pop.push (.bool _)).st
theorem op_le {a b : Int} : c.Op2 σ mu fx (compareOp .LtE) (.int a) (.int b) (.bool (decide (a ≤ b))) := by
  rintro τ s v₁ v₂ ⟨g, m, I⟩
  obtain ⟨t, u, rfl, rfl⟩ := two_ints I
  exact PyProof.Rows.le_int (I.pop.pop.push (.bool _)).st
theorem op_ge {a b : Int} : c.Op2 σ mu fx (compareOp .GtE) (.int a) (.int b) (.bool (decide (b ≤ a))) := by
  rintro τ s v₁ v₂ ⟨g, m, I⟩
  obtain ⟨t, u, rfl, rfl⟩ := two_ints I
  exact PyProof.Rows.ge_int (I.pop.pop.push (.bool _)).st
end
end Mine

end
/-! ## F3 -/
section
open PySem PySem.W PyProof.Rows PySem.Calls
namespace Mine
section
variable {c : Fc} {K : Frag} {p : Program} {loose : List Str} {mg mb : Str → Option Value} {k : Nat}
variable {σ σ' : Vars} {τ : Tmps} {mu : Muts} {fx : Fixs} {s : Shared}

/-! ### lists of expressions -/
def Fc.EvL (c : Fc) (σ : Vars) (mu : Muts) (fx : Fixs) (pos : Pos) (es : List Expr) (ds : List D) : Prop :=
  ∀ τ s, c.S σ τ mu fx s → c.wp (spliced (backTo pos (starEach es c.env))) (fun vs s' => vs.length = ds.length ∧ c.S σ (vs.zip ds ++ τ) mu fx s') s

theorem evl_nil {pos : Pos} : c.EvL σ mu fx pos [] [] := fun _ _ S => spliced_none ⟨rfl, S⟩
theorem evl_cons {pos : Pos} {e : Expr} {es : List Expr} {d : D} {ds : List D} (h : c.Ev σ mu fx e d) (ht : c.EvL σ mu fx pos es ds)
    (he : starEach (e :: es) c.env = (false, eval e c.env) :: starEach es c.env) : c.EvL σ mu fx pos (e :: es) (d :: ds) := by
  intro τ s S
  refine spliced_more (wpAny_mono (h τ s S) (fun v s₁ S₁ => wpAny_mono (ht _ s₁ S₁) (fun vs s₂ S₂ => ?_) fun _ _ f => f) fun _ _ f => f) he
  refine ⟨by simp [S₂.1], S₂.2.weaken (fun _ _ h => h) fun q hq => ?_⟩
  simp only [List.zip_cons_cons, List.cons_append, List.mem_cons, List.mem_append] at hq ⊢
  rcases hq with h | h | h
  · exact .inr (.inl h)
  · exact .inl h
  · exact .inr (.inr h)

theorem isAll_of_tmps {g : Heap} : ∀ {vs : List Value} {ds : List D}, vs.length = ds.length → (∀ q ∈ vs.zip ds, Is g q.1 q.2) → IsAll g vs ds
  | [], [], _, _ => .nil
  | v :: vs, d :: ds, hl, h => .cons (h (v, d) (by simp)) (isAll_of_tmps (by simpa using hl) fun q hq => h q (by simp [hq]))
theorem In.args {vs : List Value} {ds : List D} {g : Heap} {m : Str → Option Value} (I : In c.Ba c.g₀ c.s₀ c.env.locals σ (vs.zip ds ++ τ) mu fx g m s) (hl : vs.length = ds.length) : IsAll g vs ds :=
  isAll_of_tmps hl fun q hq => I.tmps q (List.mem_append_left _ hq)
theorem In.cut {τ' : Tmps} {g : Heap} {m : Str → Option Value} (I : In c.Ba c.g₀ c.s₀ c.env.locals σ (τ' ++ τ) mu fx g m s) : In c.Ba c.g₀ c.s₀ c.env.locals σ τ mu fx g m s :=
  { I with tmps := fun q hq => I.tmps q (List.mem_append_right _ hq) }

/-- what a def of one's own does: arguments' data, the answer's datum -/
def Grow (s : Shared) (g : Heap) (s' : Shared) (g' : Heap) : Prop :=
  (∃ h tk, s' = { s with heap := h, toks := tk }) ∧ s.heap.StaysIn s'.heap ∧ g.StaysIn g' ∧ g'.StaysIn s'.heap ∧ ∀ b o, g'.get? b = some o → (∃ o', g.get? b = some o') ∨ s.heap.objs.size ≤ b
def Does (prog : Program) (w : World) (Ba : Heap → Prop) (k : Nat) (f : Value) (ds : List D) (d : D) : Prop :=
  ∀ (A : Around) (s : Shared) (g : Heap) (vs : List Value), A.handled = none → A.depth + k ≤ 400 → A.units + 10 * k ≤ 400 → Ba g → g.StaysIn s.heap → IsAll g vs ds →
    wpAny (model prog w) A (call f vs) (fun v s' => ∃ g', Grow s g s' g' ∧ Is g' v d) Fa s

theorem In.grown {g g' : Heap} {m : Str → Option Value} {s' : Shared} (O : c.Ok K p loose mg mb k) (I : In c.Ba c.g₀ c.s₀ c.env.locals σ τ mu fx g m s) (G : Grow s g s' g') : In c.Ba c.g₀ c.s₀ c.env.locals σ τ mu fx g' m s' := by
  obtain ⟨⟨h, tk, rfl⟩, a, b, d, e⟩ := G
  exact I.grow O.mono a b d e

theorem call_does {k' : Nat} {f : Value} {vs : List Value} {ds : List D} {d : D} (O : c.Ok K p loose mg mb k) (hd : Does c.prog c.w c.Ba k' f ds d) (hk : k' ≤ k) (hl : vs.length = ds.length) (S : c.S σ (vs.zip ds ++ τ) mu fx s) :
    c.wp (call f vs) (fun v s' => c.S σ ((v, d) :: τ) mu fx s') s := by
  obtain ⟨g, m, I⟩ := S
  refine wpAny_mono (hd c.A s g vs O.handled (by have := O.depth; omega) (by have := O.units; omega) I.base I.gh (I.args hl)) (fun v s' h => ?_) fun _ _ f => f
  obtain ⟨g', G, hi⟩ := h
  exact ((I.grown O G).cut.push hi).st

/-! ### calls -/
theorem ev_callDef {f : Expr} {a : Addr} {e : Expr} {es : List Expr} {ds : List D} {d : D} {pos : Pos} {k' : Nat} (O : c.Ok K p loose mg mb k) (hf : c.Ev σ mu fx f (.val (.ref a))) (hk : keepIn K (.ref a) = true) (ha : c.EvL σ mu fx pos (e :: es) ds)
    (hd : Does c.prog c.w c.Ba k' (.ref a) ds d) (hk' : k' ≤ k)
    (hc : eval (.Call f (e :: es) [] pos) c.env = (do callWith pos (← eval f c.env) [] (backTo pos (starEach (e :: es) c.env)) (backToKw pos (keywordEach [] c.env))))
    (he : starEach (e :: es) c.env = (false, eval e c.env) :: starEach es c.env) (hp : (backTo pos (starEach es c.env)).any (·.1) = false) :
    c.Ev σ mu fx (.Call f (e :: es) [] pos) d := by
  intro τ s S
  refine Call_ (wpAny_mono (hf τ s S) (fun v s₁ S₁ => ?_) fun _ _ f => f) hc
  obtain ⟨g, m, I⟩ := S₁
  obtain rfl := is_val (I.tmps _ (.head _))
  refine callWith_K (O.at I).X hk (wpAny_mono (ha τ s₁ I.pop.st) (fun vs s₂ S₂ => ?_) fun _ _ f => f) he hp
  refine ⟨?_, ?_⟩
  · obtain ⟨_, g₂, m₂, I₂⟩ := S₂
    exact (O.at I₂).X
  · exact call_does O hd hk' S₂.1 S₂.2

theorem ev_call1 {f e : Expr} {id : String} {d₁ d : D} {pos : Pos} (hf : c.Ev σ mu fx f (.val (.builtin id))) (h₁ : c.Ev σ mu fx e d₁) (hop : c.Op1 σ mu fx (fun v => call (.builtin id) [v]) d₁ d)
    (hc : eval (.Call f [e] [] pos) c.env = (do callWith pos (← eval f c.env) [] (backTo pos (starEach [e] c.env)) (backToKw pos (keywordEach [] c.env))))
    (he : starEach [e] c.env = (false, eval e c.env) :: starEach [] c.env) : c.Ev σ mu fx (.Call f [e] [] pos) d := by
  intro τ s S
  refine Call_ (wpAny_mono (hf τ s S) (fun v s₁ S₁ => ?_) fun _ _ f => f) hc
  obtain ⟨g, m, I⟩ := S₁
  obtain rfl := is_val (I.tmps _ (.head _))
  refine PyProof.Rows.callWith_builtin1 (spliced_more (wpAny_mono (h₁ τ s₁ I.pop.st) (fun v s₂ S₂ => spliced_none (hop τ s₂ v S₂)) fun _ _ f => f) he) he rfl
theorem ev_call2 {f e e₂ : Expr} {id : String} {d₁ d₂ d : D} {pos : Pos} (hf : c.Ev σ mu fx f (.val (.builtin id))) (h₁ : c.Ev σ mu fx e d₁) (h₂ : c.Ev σ mu fx e₂ d₂) (hop : c.Op2 σ mu fx (fun v w => call (.builtin id) [v, w]) d₁ d₂ d)
    (hc : eval (.Call f [e, e₂] [] pos) c.env = (do callWith pos (← eval f c.env) [] (backTo pos (starEach [e, e₂] c.env)) (backToKw pos (keywordEach [] c.env))))
    (he : starEach [e, e₂] c.env = (false, eval e c.env) :: starEach [e₂] c.env) (he₂ : starEach [e₂] c.env = (false, eval e₂ c.env) :: starEach [] c.env) (hp : (backTo pos (starEach [e₂] c.env)).any (·.1) = false) : c.Ev σ mu fx (.Call f [e, e₂] [] pos) d := by
  intro τ s S
  refine Call_ (wpAny_mono (hf τ s S) (fun v s₁ S₁ => ?_) fun _ _ f => f) hc
  obtain ⟨g, m, I⟩ := S₁
  obtain rfl := is_val (I.tmps _ (.head _))
  refine PyProof.Rows.callWith_builtin1 (spliced_more (wpAny_mono (h₁ τ s₁ I.pop.st) (fun v s₂ S₂ => spliced_more (wpAny_mono (h₂ _ s₂ S₂) (fun v₂ s₃ S₃ => spliced_none (hop τ s₃ v v₂ S₃)) fun _ _ f => f) he₂) fun _ _ f => f) he) he hp
theorem ev_callT1 {f e : Expr} {T : String} {d₁ d : D} {pos : Pos} (hf : c.Ev σ mu fx f (.val (.type T))) (h₁ : c.Ev σ mu fx e d₁) (hop : c.Op1 σ mu fx (fun v => call (.type T) [v]) d₁ d)
    (hc : eval (.Call f [e] [] pos) c.env = (do callWith pos (← eval f c.env) [] (backTo pos (starEach [e] c.env)) (backToKw pos (keywordEach [] c.env))))
    (he : starEach [e] c.env = (false, eval e c.env) :: starEach [] c.env) : c.Ev σ mu fx (.Call f [e] [] pos) d := by
  intro τ s S
  refine Call_ (wpAny_mono (hf τ s S) (fun v s₁ S₁ => ?_) fun _ _ f => f) hc
  obtain ⟨g, m, I⟩ := S₁
  obtain rfl := is_val (I.tmps _ (.head _))
  refine PyProof.Rows.callWith_type1 (spliced_more (wpAny_mono (h₁ τ s₁ I.pop.st) (fun v s₂ S₂ => spliced_none (hop τ s₂ v S₂)) fun _ _ f => f) he) he rfl
theorem ev_callT2 {f e e₂ : Expr} {T : String} {d₁ d₂ d : D} {pos : Pos} (hf : c.Ev σ mu fx f (.val (.type T))) (h₁ : c.Ev σ mu fx e d₁) (h₂ : c.Ev σ mu fx e₂ d₂) (hop : c.Op2 σ mu fx (fun v w => call (.type T) [v, w]) d₁ d₂ d)
    (hc : eval (.Call f [e, e₂] [] pos) c.env = (do callWith pos (← eval f c.env) [] (backTo pos (starEach [e, e₂] c.env)) (backToKw pos (keywordEach [] c.env))))
    (he : starEach [e, e₂] c.env = (false, eval e c.env) :: starEach [e₂] c.env) (he₂ : starEach [e₂] c.env = (false, eval e₂ c.env) :: starEach [] c.env) (hp : (backTo pos (starEach [e₂] c.env)).any (·.1) = false) : c.Ev σ mu fx (.Call f [e, e₂] [] pos) d := by
  intro τ s S
  refine Call_ (wpAny_mono (hf τ s S) (fun v s₁ S₁ => ?_) fun _ _ f => f) hc
  obtain ⟨g, m, I⟩ := S₁
  obtain rfl := is_val (I.tmps _ (.head _))
  refine PyProof.Rows.callWith_type1 (spliced_more (wpAny_mono (h₁ τ s₁ I.pop.st) (fun v s₂ S₂ => spliced_more (wpAny_mono (h₂ _ s₂ S₂) (fun v₂ s₃ S₃ => spliced_none (hop τ s₃ v v₂ S₃)) fun _ _ f => f) he₂) fun _ _ f => f) he) he hp

/-! ### displays -/
theorem In.newList (O : c.Ok K p loose mg mb k) {g : Heap} {m : Str → Option Value} {vs : List Value} {ds : List D} (I : In c.Ba c.g₀ c.s₀ c.env.locals σ τ mu fx g m s) (hs : IsAll g vs ds) {n tk : Nat} {h' : Heap} {a : Addr}
    (k₀ : s.heap.StaysIn h') (ha : h'.get? a = some { cls := .type "list", data := .seq vs.toArray n }) (hle : s.heap.objs.size ≤ a) : c.S σ ((.ref a, .list ds) :: τ) mu fx { s with heap := h', toks := tk } := by
  obtain ⟨g', I', kg, e⟩ := I.alloc O.mono (tk := tk) k₀ ha hle
  exact (I'.push (.list ⟨_, e, rfl, n, rfl⟩ (hs.keeps kg))).st
theorem ev_list {es : List Expr} {ds : List D} {pos : Pos} (O : c.Ok K p loose mg mb k) (h : c.EvL σ mu fx pos es ds) (hn : ds.length ≤ sizeLine) : c.Ev σ mu fx (.List es pos) (.list ds) := by
  intro τ s S
  refine List_ (wpAny_mono (h τ s S) (fun vs s₁ S₁ => ?_) fun _ _ f => f)
  obtain ⟨hl, g, m, I⟩ := S₁
  refine PySem.wpAny_newList ?_ (by rw [hl]; exact hn)
  exact I.cut.newList O (I.args hl) (tk := s₁.toks) (stays_push _ _) (Heap.get?_push_size _ rfl) (Nat.le_refl _)
theorem ev_tuple {es : List Expr} {ds : List D} {n : Nat} {pos : Pos} (O : c.Ok K p loose mg mb k) (h : c.EvL σ mu fx pos es ds) (hn : ds.length ≤ sizeLine) : c.Ev σ mu fx (.Tuple es n pos) (.tup ds) := by
  intro τ s S
  refine Tuple_ (wpAny_mono (h τ s S) (fun vs s₁ S₁ => ?_) fun _ _ f => f)
  obtain ⟨hl, g, m, I⟩ := S₁
  refine PySem.wpAny_newTuple ?_ (by rw [hl]; exact hn)
  obtain ⟨g', I', kg, e⟩ := I.alloc O.mono (tk := s₁.toks) (a := s₁.heap.objs.size) (stays_push s₁.heap { cls := .type "tuple", data := .seq vs.toArray }) (Heap.get?_push_size _ rfl) (Nat.le_refl _)
  exact (I'.cut.push (.tup ⟨_, e, rfl, _, rfl⟩ ((I.args hl).keeps kg))).st

/-! ### statements -/
def Fc.X (c : Fc) (σ : Vars) (τ : Tmps) (mu : Muts) (fx : Fixs) (st : List Stmt) (Q : Flow → Shared → Prop) : Prop := ∀ s, c.S σ τ mu fx s → c.wp (execs st c.env) Q s
/-- what follows a block -/
def Fc.seq (c : Fc) (rest : List Stmt) (Q : Flow → Shared → Prop) : Flow → Shared → Prop := fun f s' => match f with | .next => c.wp (execs rest c.env) Q s' | f => Q f s'
variable {Q : Flow → Shared → Prop} {rest : List Stmt}

theorem x_nil (h : ∀ s, c.S σ τ mu fx s → Q .next s) : c.X σ τ mu fx [] Q := fun s S => wpAny_execs_nil (h s S)
theorem x_end (h : c.X σ τ mu fx rest Q) : c.X σ τ mu fx [] (c.seq rest Q) := fun s S => wpAny_execs_nil (h s S)
theorem x_weaken (h : c.X σ' τ mu fx rest Q) (hw : ∀ x d, σ'.lookup x = some d → σ.lookup x = some d) : c.X σ τ mu fx rest Q := fun s S => h s (S.vars hw)
theorem x_mono {Q' : Flow → Shared → Prop} (h : c.X σ τ mu fx rest Q) (hq : ∀ f s, Q f s → Q' f s) : c.X σ τ mu fx rest Q' := fun s S => wpAny_mono (h s S) hq fun _ _ f => f

theorem cons_of {st : Stmt} (h : c.wp (exec st c.env) (c.seq rest Q) s) : c.wp (execs (st :: rest) c.env) Q s :=
  wpAny_execs_cons (wpAny_mono h (fun f s' q => by cases f <;> exact q) fun _ _ f => f)

theorem x_if {t : Expr} {b₁ b₂ : List Stmt} {b : Bool} {pos : Pos} (ht : c.Tr σ mu fx t b) (h₁ : b = true → c.X σ τ mu fx b₁ (c.seq rest Q)) (h₂ : b = false → c.X σ τ mu fx b₂ (c.seq rest Q)) :
    c.X σ τ mu fx (.If t b₁ b₂ pos :: rest) Q := by
  intro s S
  refine cons_of (wpAny_If (wpAny_mono (ht τ s S) (fun x s₁ S₁ => ?_) fun _ _ f => f))
  obtain ⟨rfl, S₁⟩ := S₁
  cases x with
  | true => exact h₁ rfl s₁ S₁
  | false => exact h₂ rfl s₁ S₁

theorem x_return {e : Expr} {d : D} {pos : Pos} (h : c.Ev σ mu fx e d) (hq : ∀ v s, c.S σ ((v, d) :: τ) mu fx s → Q (.ret v) s) : c.X σ τ mu fx (.Return (some e) pos :: rest) Q := by
  intro s S
  exact cons_of (wpAny_Return_some (wpAny_mono (h τ s S) (fun v s₁ S₁ => hq v s₁ S₁) fun _ _ f => f))
theorem x_break {pos : Pos} (hq : ∀ s, c.S σ τ mu fx s → Q .brk s) : c.X σ τ mu fx (.Break pos :: rest) Q := fun s S => cons_of (wpAny_Break (hq s S))

/-- storing a name -/
theorem In.store {g : Heap} {m : Str → Option Value} {x : Str} {v : Value} {d : D} {h' : Heap} {tk : Nat} (I : In c.Ba c.g₀ c.s₀ c.env.locals σ ((v, d) :: τ) mu fx g m s)
    (hn : h'.Ns c.env.locals (fun y => if y = x then some v else m y)) (hs : Heap.SameBut c.env.locals s.heap h') : In c.Ba c.g₀ c.s₀ c.env.locals ((x, d) :: σ) τ mu fx g (fun y => if y = x then some v else m y) { s with heap := h', toks := tk } where
  same := by obtain ⟨h, t, e⟩ := I.same; exact ⟨h', tk, by rw [e]⟩
  keep := fun b o e => hs.extBut b o (Nat.ne_of_lt (Nat.lt_of_lt_of_le (Heap.lt_size e) I.Ls)) (I.keep b o e)
  gk := I.gk
  gh := fun b o e => hs.extBut b o (by rintro rfl; rw [I.Lg] at e; cases e) (I.gh b o e)
  new := I.new
  base := I.base
  ns := hn
  Ls := I.Ls
  Lg := I.Lg
  vars := fun y d' e => by
    rw [List.lookup_cons] at e
    by_cases hy : y = x
    · subst hy
      simp only [beq_self_eq_true] at e
      obtain rfl := Option.some.inj e
      exact ⟨v, by simp, I.tmps (v, d) (.head _)⟩
    · have : (y == x) = false := beq_eq_false_iff_ne.mpr hy
      simp only [this] at e
      obtain ⟨v', a, b⟩ := I.vars y d' e
      exact ⟨v', by simp [hy, a], b⟩
  tmps := fun q hq => I.tmps q (.tail _ hq)
  muts := fun q hq => by
    obtain ⟨⟨vs, a, b⟩, e, f, i⟩ := I.muts q hq
    exact ⟨⟨vs, a.extBut hs.extBut i, b⟩, e, f, i⟩
  fixs := fun q hq => by
    obtain ⟨a, e, f, i⟩ := I.fixs q hq
    exact ⟨hs.extBut _ _ i a, e, f, i⟩
  apart := I.apart

theorem store_ {x : Str} {v : Value} {d : D} {Q : Unit → Shared → Prop} (O : c.Ok K p loose mg mb k) (hl : c.env.kindOf x = some .local) (S : c.S σ ((v, d) :: τ) mu fx s) (h : ∀ s', c.S ((x, d) :: σ) τ mu fx s' → Q () s') :
    c.wp (storeName c.env x v) Q s := by
  obtain ⟨g, m, I⟩ := S
  refine wpAny_storeName_local hl I.ns (fun h' hn hs => h _ (I.store hn hs).st) ?_
  rw [O.kind]; rfl

theorem x_assign {x : Str} {e : Expr} {d : D} {pos pos' : Pos} (O : c.Ok K p loose mg mb k) (h : c.Ev σ mu fx e d) (hr : c.X ((x, d) :: σ) τ mu fx rest Q) (hl : c.env.kindOf x = some .local)
    (hs : swapsWith e (some (.Name x pos')) pos.line c.env = pure false) : c.X σ τ mu fx (.Assign [.Name x pos'] e pos :: rest) Q := by
  intro s S
  exact cons_of (wpAny_Assign_Name (wpAny_mono (h τ s S) (fun v s₁ S₁ => store_ O hl S₁ fun s' S' => hr s' S') fun _ _ f => f) hs)

/-- «x += e» of ints -/
theorem x_aug_add {x : Str} {e : Expr} {a b : Int} {pos pos' : Pos} (O : c.Ok K p loose mg mb k) (hx : σ.lookup x = some (.int a)) (h : c.Ev σ mu fx e (.int b)) (hr : c.X ((x, .int (a + b)) :: σ) τ mu fx rest Q) (hl : c.env.kindOf x = some .local) :
    c.X σ τ mu fx (.AugAssign (.Name x pos') .Add e pos :: rest) Q := by
  intro s S
  obtain ⟨g, m, I⟩ := S
  obtain ⟨v, hv, hi⟩ := I.vars x _ hx
  refine cons_of (wpAny_AugAssign_Name (wpAny_loadName_local O.kind hl I.ns hv (wpAny_mono (h ((v, .int a) :: τ) s (I.push hi).st) (fun v₂ s₁ S₁ => ?_) fun _ _ f => f)))
  obtain ⟨g₁, m₁, I₁⟩ := S₁
  obtain ⟨t, u, rfl, rfl⟩ := two_ints I₁
  refine PyProof.Rows.iadd_int ?_
  exact store_ O hl (I₁.pop.pop.tok.push (.int _ _)).st fun s' S' => hr s' S'
end
end Mine

end
/-! ## F4 -/
section
open PySem PySem.W PyProof.Rows PySem.Calls
namespace Mine
section
variable {Ba : Heap → Prop} {g₀ : Heap} {s₀ : Shared} {L : Addr} {σ σ' : Vars} {τ τ' : Tmps} {mu : Muts} {fx : Fixs} {s : Shared} {g : Heap} {m : Str → Option Value}

/-- every address of the frame's own is below the heap's end -/
theorem In.mut_lt (I : In Ba g₀ s₀ L σ τ mu fx g m s) {q : Addr × Bool × List D} (hq : q ∈ mu) : q.1 < s.heap.objs.size := by
  obtain ⟨⟨_, a, _⟩, _⟩ := I.muts q hq
  exact a.lt
theorem In.fix_lt (I : In Ba g₀ s₀ L σ τ mu fx g m s) {q : Addr × Obj} (hq : q ∈ fx) : q.1 < s.heap.objs.size := Heap.lt_size (I.fixs q hq).1

/-- a new object that the frame keeps for itself, exactly as it is -/
theorem In.addFix (I : In Ba g₀ s₀ L σ τ mu fx g m s) {a : Addr} {o : Obj} (ha : s.heap.get? a = some o) (hg : g.get? a = none) (hs : s₀.heap.objs.size ≤ a) (hL : a ≠ L)
    (hm : ∀ q ∈ mu, q.1 ≠ a) (hf : ∀ q ∈ fx, q.1 ≠ a) : In Ba g₀ s₀ L σ τ mu ((a, o) :: fx) g m s :=
  { I with
    fixs := fun q hq => by
      cases hq with
      | head => exact ⟨ha, hg, hs, hL⟩
      | tail _ hq => exact I.fixs q hq
    apart := by
      have := I.apart
      rw [List.map_cons]
      refine (List.perm_middle.nodup_iff).mpr (List.nodup_cons.mpr ⟨fun h => ?_, this⟩)
      rcases List.mem_append.mp h with h | h
      · obtain ⟨q, hq, e⟩ := List.mem_map.mp h; exact hm q hq e
      · obtain ⟨q, hq, e⟩ := List.mem_map.mp h; exact hf q hq e }

theorem In.stable_lt (I : In Ba g₀ s₀ L σ τ mu fx g m s) {b : Addr} (h : s.heap.objs.size ≤ b) : g.get? b = none := by
  cases e : g.get? b with
  | none => rfl
  | some o => exact absurd (Heap.lt_size (I.gh b o e)) (Nat.not_lt.mpr h)

theorem In.pushFix (I : In Ba g₀ s₀ L σ τ mu fx g m s) {o : Obj} (ho : o.isFreed = false) {tk : Nat} : In Ba g₀ s₀ L σ τ mu ((s.heap.objs.size, o) :: fx) g m { s with heap := s.heap.push o, toks := tk } := by
  have J := I.step (tk := tk) (stays_push s.heap o)
  refine J.addFix (Heap.get?_push_size _ ho) (I.stable_lt (Nat.le_refl _)) (Nat.le_of_lt I.s0_lt) (Nat.ne_of_gt I.L_lt) (fun q hq => Nat.ne_of_lt (I.mut_lt hq)) fun q hq => Nat.ne_of_lt (I.fix_lt hq)

/-- the frame's own object is changed, all else stands -/
theorem In.setFix {a : Addr} {o o' : Obj} (I : In Ba g₀ s₀ L σ τ mu ((a, o) :: fx) g m s) {h' : Heap} {tk : Nat} (hs : Heap.ExtBut a s.heap h') (ho : h'.get? a = some o') : In Ba g₀ s₀ L σ τ mu ((a, o') :: fx) g m { s with heap := h', toks := tk } where
  same := by obtain ⟨h, t, e⟩ := I.same; exact ⟨h', tk, by rw [e]⟩
  keep := fun b x e => hs b x (Nat.ne_of_lt (Nat.lt_of_lt_of_le (Heap.lt_size e) (I.fixs _ (.head _)).2.2.1)) (I.keep b x e)
  gk := I.gk
  gh := fun b x e => hs b x (by rintro rfl; rw [(I.fixs _ (.head _)).2.1] at e; cases e) (I.gh b x e)
  new := I.new
  base := I.base
  ns := I.ns.extBut hs (Ne.symm (I.fixs _ (.head _)).2.2.2)
  Ls := I.Ls
  Lg := I.Lg
  vars := I.vars
  tmps := I.tmps
  muts := fun q hq => by
    obtain ⟨⟨vs, x, b⟩, r⟩ := I.muts q hq
    refine ⟨⟨vs, x.extBut hs ?_, b⟩, r⟩
    intro e
    have := I.apart
    rw [List.map_cons, List.perm_middle.nodup_iff, List.nodup_cons] at this
    exact this.1 (List.mem_append_left _ (List.mem_map.mpr ⟨q, hq, e⟩))
  fixs := fun q hq => by
    cases hq with
    | head => exact ⟨ho, (I.fixs _ (.head _)).2⟩
    | tail _ hq =>
      obtain ⟨x, r⟩ := I.fixs q (.tail _ hq)
      refine ⟨hs _ _ ?_ x, r⟩
      intro e
      have := I.apart
      rw [List.map_cons, List.perm_middle.nodup_iff, List.nodup_cons] at this
      exact this.1 (List.mem_append_right _ (List.mem_map.mpr ⟨q, hq, e⟩))
  apart := I.apart

/-- the frame's own object is let go -/
theorem In.dropFix {a : Addr} {o : Obj} (I : In Ba g₀ s₀ L σ τ mu ((a, o) :: fx) g m s) {h' : Heap} {tk : Nat} (hs : Heap.ExtBut a s.heap h') : In Ba g₀ s₀ L σ τ mu fx g m { s with heap := h', toks := tk } where
  same := by obtain ⟨h, t, e⟩ := I.same; exact ⟨h', tk, by rw [e]⟩
  keep := fun b x e => hs b x (Nat.ne_of_lt (Nat.lt_of_lt_of_le (Heap.lt_size e) (I.fixs _ (.head _)).2.2.1)) (I.keep b x e)
  gk := I.gk
  gh := fun b x e => hs b x (by rintro rfl; rw [(I.fixs _ (.head _)).2.1] at e; cases e) (I.gh b x e)
  new := I.new
  base := I.base
  ns := I.ns.extBut hs (Ne.symm (I.fixs _ (.head _)).2.2.2)
  Ls := I.Ls
  Lg := I.Lg
  vars := I.vars
  tmps := I.tmps
  muts := fun q hq => by
    obtain ⟨⟨vs, x, b⟩, r⟩ := I.muts q hq
    refine ⟨⟨vs, x.extBut hs ?_, b⟩, r⟩
    intro e
    have := I.apart
    rw [List.map_cons, List.perm_middle.nodup_iff, List.nodup_cons] at this
    exact this.1 (List.mem_append_left _ (List.mem_map.mpr ⟨q, hq, e⟩))
  fixs := fun q hq => by
    obtain ⟨x, r⟩ := I.fixs q (.tail _ hq)
    refine ⟨hs _ _ ?_ x, r⟩
    intro e
    have := I.apart
    rw [List.map_cons, List.perm_middle.nodup_iff, List.nodup_cons] at this
    exact this.1 (List.mem_append_right _ (List.mem_map.mpr ⟨q, hq, e⟩))
  apart := by
    have := I.apart
    rw [List.map_cons, List.perm_middle.nodup_iff, List.nodup_cons] at this
    exact this.2

/-! ### lists under change -/
theorem In.newMut (I : In Ba g₀ s₀ L σ τ mu fx g m s) {vs : List Value} {ds : List D} {h' : Heap} {tk : Nat} {a : Addr} {pl : Bool} (hi : IsAll g vs ds) (k : s.heap.StaysIn h') (ha : LK pl h' a vs.toArray) (hle : s.heap.objs.size ≤ a) :
    In Ba g₀ s₀ L σ τ ((a, pl, ds) :: mu) fx g m { s with heap := h', toks := tk } :=
  have J := I.step (tk := tk) k
  { J with
    muts := fun q hq => by
      cases hq with
      | head => exact ⟨⟨vs, ha, hi⟩, I.stable_lt hle, Nat.le_trans (Nat.le_of_lt I.s0_lt) hle, Nat.ne_of_gt (Nat.lt_of_lt_of_le I.L_lt hle)⟩
      | tail _ hq => exact J.muts q hq
    apart := by
      rw [List.map_cons, List.cons_append]
      refine List.nodup_cons.mpr ⟨fun h => ?_, I.apart⟩
      rcases List.mem_append.mp h with h | h
      · obtain ⟨q, hq, e⟩ := List.mem_map.mp h; exact absurd (I.mut_lt hq) (Nat.not_lt.mpr (e ▸ hle))
      · obtain ⟨q, hq, e⟩ := List.mem_map.mp h; exact absurd (I.fix_lt hq) (Nat.not_lt.mpr (e ▸ hle)) }

/-- the first of the lists under change is changed -/
theorem In.setMut {a : Addr} {pl : Bool} {ds ds' : List D} (I : In Ba g₀ s₀ L σ τ ((a, pl, ds) :: mu) fx g m s) {vs : List Value} {h' : Heap} {tk : Nat} (hs : Heap.ExtBut a s.heap h') (ha : LK pl h' a vs.toArray) (hi : IsAll g vs ds') :
    In Ba g₀ s₀ L σ τ ((a, pl, ds') :: mu) fx g m { s with heap := h', toks := tk } where
  same := by obtain ⟨h, t, e⟩ := I.same; exact ⟨h', tk, by rw [e]⟩
  keep := fun b x e => hs b x (Nat.ne_of_lt (Nat.lt_of_lt_of_le (Heap.lt_size e) (I.muts _ (.head _)).2.2.1)) (I.keep b x e)
  gk := I.gk
  gh := fun b x e => hs b x (by rintro rfl; rw [(I.muts _ (.head _)).2.1] at e; cases e) (I.gh b x e)
  new := I.new
  base := I.base
  ns := I.ns.extBut hs (Ne.symm (I.muts _ (.head _)).2.2.2)
  Ls := I.Ls
  Lg := I.Lg
  vars := I.vars
  tmps := I.tmps
  muts := fun q hq => by
    have ap := I.apart
    rw [List.map_cons, List.cons_append, List.nodup_cons] at ap
    cases hq with
    | head => exact ⟨⟨vs, ha, hi⟩, (I.muts _ (.head _)).2⟩
    | tail _ hq =>
      obtain ⟨⟨ws, x, b⟩, r⟩ := I.muts q (.tail _ hq)
      exact ⟨⟨ws, x.extBut hs fun e => ap.1 (List.mem_append_left _ (List.mem_map.mpr ⟨q, hq, e⟩)), b⟩, r⟩
  fixs := fun q hq => by
    have ap := I.apart
    rw [List.map_cons, List.cons_append, List.nodup_cons] at ap
    obtain ⟨x, r⟩ := I.fixs q hq
    exact ⟨hs _ _ (fun e => ap.1 (List.mem_append_right _ (List.mem_map.mpr ⟨q, hq, e⟩))) x, r⟩
  apart := I.apart

/-- the first of the lists under change changes no more -/
theorem In.freeze {a : Addr} {pl : Bool} {ds : List D} (I : In Ba g₀ s₀ L σ τ ((a, pl, ds) :: mu) fx g m s) (hB : ∀ h h' : Heap, h.StaysIn h' → Ba h → Ba h') :
    ∃ g', In Ba g₀ s₀ L σ τ mu fx g' m s ∧ g.StaysIn g' ∧ Is g' (.ref a) (.list ds) := by
  obtain ⟨⟨vs, ⟨o, n, ho, hc, _, hd⟩, hi⟩, hg, hs, hL⟩ := I.muts _ (.head _)
  have ap := I.apart
  rw [List.map_cons, List.cons_append, List.nodup_cons] at ap
  have get : ∀ b x, (only s.heap fun b => (∃ o', g.get? b = some o') ∨ b = a).get? b = some x → ((∃ o', g.get? b = some o') ∨ b = a) ∧ s.heap.get? b = some x := by
    intro b x e
    by_cases hb : (∃ o', g.get? b = some o') ∨ b = a
    · rw [only_get_pos hb] at e; exact ⟨hb, e⟩
    · rw [only_get_neg hb] at e; cases e
  have kg : g.StaysIn (only s.heap fun b => (∃ o', g.get? b = some o') ∨ b = a) := fun b x e => by
    rw [only_get_pos (.inl ⟨x, e⟩)]; exact I.gh b x e
  have miss : ∀ b, g.get? b = none → b ≠ a → (only s.heap fun b => (∃ o', g.get? b = some o') ∨ b = a).get? b = none := by
    intro b h1 h2
    refine only_get_neg ?_
    rintro (⟨o', e⟩ | e)
    · rw [h1] at e; cases e
    · exact h2 e
  refine ⟨only s.heap fun b => (∃ o', g.get? b = some o') ∨ b = a, ?_, kg, ?_⟩
  · exact {
      same := I.same
      keep := I.keep
      gk := fun b x e => kg _ _ (I.gk b x e)
      gh := fun b x e => (get b x e).2
      new := fun b x e => by
        rcases (get b x e).1 with ⟨o', e'⟩ | e'
        · exact I.new b o' e'
        · exact .inr (e' ▸ hs)
      base := hB _ _ kg I.base
      ns := I.ns
      Ls := I.Ls
      Lg := miss L I.Lg (Ne.symm hL)
      vars := fun x d e => let ⟨v, p, q⟩ := I.vars x d e; ⟨v, p, q.keeps kg⟩
      tmps := fun q hq => (I.tmps q hq).keeps kg
      muts := fun q hq => by
        obtain ⟨⟨ws, x, b⟩, r1, r2⟩ := I.muts q (.tail _ hq)
        exact ⟨⟨ws, x, b.keeps kg⟩, miss _ r1 fun e => ap.1 (List.mem_append_left _ (List.mem_map.mpr ⟨q, hq, e⟩)), r2⟩
      fixs := fun q hq => by
        obtain ⟨x, r1, r2⟩ := I.fixs q hq
        exact ⟨x, miss _ r1 fun e => ap.1 (List.mem_append_right _ (List.mem_map.mpr ⟨q, hq, e⟩)), r2⟩
      apart := ap.2 }
  · exact .list ⟨o, by rw [only_get_pos (.inr rfl)]; exact ho, hc, n, hd⟩ (hi.keeps kg)
end

section
variable {c : Fc} {K : Frag} {p : Program} {loose : List Str} {mg mb : Str → Option Value} {k : Nat}
variable {σ σ' : Vars} {τ : Tmps} {mu : Muts} {fx : Fixs} {s : Shared}

/-! ### things to go through -/
/-- an iterator's object, at the `i`-th of the data -/
def IterObj (τ : Tmps) (ds : List D) (i : Nat) (o : Obj) : Prop :=
  (∃ l, o.cls = .type "list_iterator" ∧ o.data = .fields #[.ref l, .int i 0] ∧ ((.ref l, .list ds) : Value × D) ∈ τ) ∨
  (∃ (a : Int) (n : Nat), o = { cls := .type "range_iterator", dict := none, data := .fields #[rawInt (a + i), rawInt ((n : Int) - i), rawInt 1], slots := #[] } ∧ ds = (List.range n).map fun j => .int (a + j))

theorem IterObj.mono {τ τ' : Tmps} {ds : List D} {i : Nat} {o : Obj} (h : IterObj τ ds i o) (hs : ∀ q ∈ τ, q ∈ τ') : IterObj τ' ds i o := by
  rcases h with ⟨l, a, b, q⟩ | h
  · exact .inl ⟨l, a, b, hs _ q⟩
  · exact .inr h

theorem next_some {I : Addr} {o : Obj} {ds : List D} {i : Nat} {d : D} {Q : Option Value → Shared → Prop} (hi : IterObj τ ds i o) (hd : ds[i]? = some d) (S : c.S σ τ mu ((I, o) :: fx) s)
    (h : ∀ v s' o', c.S σ ((v, d) :: τ) mu ((I, o') :: fx) s' → IterObj τ ds (i + 1) o' → Q (some v) s') : c.wp (pyNext (.ref I)) Q s := by
  obtain ⟨g, m, J⟩ := S
  have hI := (J.fixs _ (.head _)).1
  rcases hi with ⟨l, hc, hdt, ht⟩ | ⟨a, n, rfl, rfl⟩
  · obtain ⟨l', vs, e1, hl, ha⟩ := is_list (J.tmps _ ht)
    obtain rfl := Value.ref.inj e1
    obtain ⟨v, hv, hvd⟩ := ha.get hd
    refine wpAny_pyNext_list_item (l := l) (i := i) ⟨o, hI, hc, hdt⟩ (IsList.keeps hl J.gh) (x := v) (by simpa using hv) fun h' hit hs => ?_
    obtain ⟨o', ho', hc', hd'⟩ := hit
    exact h v _ o' ((J.setFix hs.extBut ho').push hvd).st (.inl ⟨l, hc', hd', ht⟩)
  · have hlt : i < n := by
      rcases Nat.lt_or_ge i n with h1 | h1
      · exact h1
      · rw [List.getElem?_eq_none (by simpa using h1)] at hd; cases hd
    have hd' : d = .int (a + i) := by simp [hlt] at hd; exact hd.symm
    subst hd'
    refine wpAny_pyNext_range_item (x := a + i) (left := (n : Int) - i) (step := 1) hI (by omega) fun h' hit hs => ?_
    refine h _ _ _ ((J.setFix hs.extBut hit).push (.int _ _)).st (.inr ⟨a, n, ?_, rfl⟩)
    have e1 : a + (i : Int) + 1 = a + ((i + 1 : Nat) : Int) := by omega
    have e2 : (n : Int) - i - 1 = n - ((i + 1 : Nat) : Int) := by omega
    rw [e1, e2]

theorem next_none (O : c.Ok K p loose mg mb k) {I : Addr} {o : Obj} {ds : List D} {Q : Option Value → Shared → Prop} (hi : IterObj τ ds ds.length o) (S : c.S σ τ mu ((I, o) :: fx) s)
    (h : ∀ s', c.S σ τ mu fx s' → Q none s') : c.wp (pyNext (.ref I)) Q s := by
  obtain ⟨g, m, J⟩ := S
  have hI := (J.fixs _ (.head _)).1
  rcases hi with ⟨l, hc, hdt, ht⟩ | ⟨a, n, rfl, rfl⟩
  · obtain ⟨l', vs, e1, hl, ha⟩ := is_list (J.tmps _ ht)
    obtain rfl := Value.ref.inj e1
    refine wpAny_pyNext_list_end (l := l) (i := ds.length) O.handled ⟨o, hI, hc, hdt⟩ (IsList.keeps hl J.gh) (by simp [ha.length]) fun h' hs => ?_
    exact h _ (J.dropFix hs).st
  · refine wpAny_pyNext_range_end O.handled hI (by simp) fun h' hs => ?_
    exact h _ (J.dropFix hs).st

/-- an expression to go through -/
def Fc.Src (c : Fc) (σ : Vars) (mu : Muts) (fx : Fixs) (e : Expr) (ds : List D) : Prop :=
  ∀ τ s, c.S σ τ mu fx s → c.wp (eval e c.env) (fun x s' => ∃ τ' o, c.S σ (τ' ++ τ) mu fx s' ∧ IterObj τ' ds 0 o ∧ o.isFreed = false ∧
    ∀ Q : Value → Shared → Prop, Q (.ref s'.heap.objs.size) { s' with heap := s'.heap.push o } → c.wp (pyIter x) Q s') s

theorem src_list {e : Expr} {ds : List D} (h : c.Ev σ mu fx e (.list ds)) : c.Src σ mu fx e ds := by
  intro τ s S
  refine wpAny_mono (h τ s S) (fun v s₁ S₁ => ?_) fun _ _ f => f
  have S₁' := S₁
  obtain ⟨g, m, J⟩ := S₁
  obtain ⟨l, vs, rfl, hl, ha⟩ := is_list (J.tmps _ (.head _))
  refine ⟨[(.ref l, .list ds)], { cls := .type "list_iterator", data := .fields #[.ref l, .int 0 0] }, S₁', .inl ⟨l, rfl, rfl, .head _⟩, rfl, fun Q hQ => ?_⟩
  exact wpAny_pyIter_list (IsList.keeps hl J.gh) hQ

/-- range(n), range(a, b) -/
theorem src_range {e : Expr} {a b : Int} (h : ∀ τ s, c.S σ τ mu fx s → c.wp (eval e c.env) (fun v s' => c.S σ τ mu fx s' ∧ ∃ r t u x, v = .ref r ∧ IsRange s'.heap r a b 1 t u x) s)
    (ha : -(2 ^ 62) ≤ a) (ha' : a < 2 ^ 62) (hb : -(2 ^ 62) ≤ b) (hb' : b < 2 ^ 62) : c.Src σ mu fx e ((List.range (b - a).toNat).map fun j : Nat => D.int (a + (j : Int))) := by
  intro τ s S
  refine wpAny_mono (h τ s S) (fun v s₁ S₁ => ?_) fun _ _ f => f
  obtain ⟨S₁, r, t, u, x, rfl, hr⟩ := S₁
  refine ⟨[], _, S₁, .inr ⟨a, (b - a).toNat, rfl, rfl⟩, rfl, fun Q hQ => ?_⟩
  refine wpAny_pyIter_range hr (small_one ha ha' hb hb') ?_
  have e : Builtin.Range.rangeSize a b 1 = ((b - a).toNat : Int) - ((0 : Nat) : Int) := by rw [rangeSize_one]; split <;> omega
  have e0 : a = a + ((0 : Nat) : Int) := by omega
  rw [← e0] at hQ
  rw [e]
  exact hQ

theorem exec_of_one {st : Stmt} {Q : Flow → Shared → Prop} (h : c.wp (execs [st] c.env) Q s) : c.wp (exec st c.env) Q s := by
  intro Γ p hΓ
  have := h Γ p hΓ
  rw [execs_cons, Sem.wp_bind'] at this
  refine Sem.wp_mono _ Γ _ (fun f p' s' h' => ?_) (fun _ _ _ h' => h') _ _ this
  cases f <;> exact h'

/-! ### for -/
/-- what a turn hands on -/
def Fc.turn (c : Fc) (P : Prop) (σ : Vars) (τ : Tmps) (mu : Muts) (fx : Fixs) (B : Shared → Prop) (Q : Flow → Shared → Prop) : Flow → Shared → Prop := fun f s' => match f with
  | .next | .cont => P ∧ c.S σ τ mu fx s'
  | .brk => B s'
  | .ret v => Q (.ret v) s'

theorem x_forF {x : Str} {iter : Expr} {body rest : List Stmt} {ds : List D} {pos px : Pos} {Q : Flow → Shared → Prop} (O : c.Ok K p loose mg mb k) (P : Nat → Prop) (σ : Nat → Vars) (mu : Nat → Muts) (hP : P 0)
    (hsrc : c.Src (σ 0) (mu 0) fx iter ds) (hl : c.env.kindOf x = some .local)
    (hbody : ∀ i d, P i → ds[i]? = some d → ∀ τ' q, c.X ((x, d) :: σ i) τ' (mu i) (q :: fx) body (c.turn (P (i + 1)) (σ (i + 1)) τ' (mu (i + 1)) (q :: fx) (fun _ => False) Q))
    (hdone : P ds.length → c.X (σ ds.length) τ (mu ds.length) fx rest Q)
    (hs : ∀ x, foldedSetIterable iter c.env x = pure x) (ht : ∀ it v, letOwnedTupleGo (.Name x px) it v = pure ()) : c.X (σ 0) τ (mu 0) fx (.For (.Name x px) iter body [] pos :: rest) Q := by
  intro s S
  refine cons_of (wpAny_For (wpAny_mono (hsrc τ s S) (fun xv s₁ h₁ => ?_) fun _ _ f => f) hs)
  obtain ⟨τ', o, S₁, hi, hfr, hit⟩ := h₁
  refine hit _ ?_
  have S₂ : c.S (σ 0) (τ' ++ τ) (mu 0) ((s₁.heap.objs.size, o) :: fx) { s₁ with heap := s₁.heap.push o } := by
    obtain ⟨g, m, J⟩ := S₁
    exact (J.pushFix hfr).st
  refine codeAny_forLoop (fun n s' => ∃ i o', n + i = ds.length ∧ P i ∧ c.S (σ i) (τ' ++ τ) (mu i) ((s₁.heap.objs.size, o') :: fx) s' ∧ IterObj (τ' ++ τ) ds i o') ?_ ds.length ⟨0, o, by omega, hP, S₂, hi.mono fun q hq => List.mem_append_left _ hq⟩ (ht _)
  rintro n s' ⟨i, o', hni, hPi, S', hi'⟩
  cases hd : ds[i]? with
  | none =>
    have hlen : i = ds.length := by
      have := List.getElem?_eq_none_iff.mp hd
      omega
    subst hlen
    refine wp_any (next_none O hi' S' (Q := fun r s₂ => r = none ∧ c.S (σ ds.length) (τ' ++ τ) (mu ds.length) fx s₂) fun s₂ S₂ => ⟨rfl, S₂⟩) fun r s₂ h₂ => ?_
    obtain ⟨rfl, S₂⟩ := h₂
    refine wpAny_execs_nil ?_
    exact hdone hPi s₂ (S₂.weaken (fun _ _ h => h) fun q hq => List.mem_append_right _ hq)
  | some d =>
    refine wp_any (next_some hi' hd S' (Q := fun r s₂ => ∃ v o'', r = some v ∧ c.S (σ i) ((v, d) :: (τ' ++ τ)) (mu i) ((s₁.heap.objs.size, o'') :: fx) s₂ ∧ IterObj (τ' ++ τ) ds (i + 1) o'') fun v s₂ o'' S₂ h₂ => ⟨v, o'', rfl, S₂, h₂⟩) fun r s₂ h₂ => ?_
    obtain ⟨v, o'', rfl, S₂, hi₂⟩ := h₂
    refine wp_any (wpAny_assign_Name (store_ O hl S₂ (Q := fun _ s₃ => c.S ((x, d) :: σ i) (τ' ++ τ) (mu i) ((s₁.heap.objs.size, o'') :: fx) s₃) fun s₃ S₃ => S₃)) fun _ s₃ S₃ => ?_
    refine wp_any (hbody i d hPi hd _ _ s₃ S₃) fun f s₄ h₄ => ?_
    have hlt : i < ds.length := by
      rcases Nat.lt_or_ge i ds.length with h1 | h1
      · exact h1
      · rw [List.getElem?_eq_none h1] at hd; cases hd
    cases f with
    | next => exact ⟨n - 1, by omega, i + 1, o'', by omega, h₄.1, h₄.2, hi₂⟩
    | cont => exact ⟨n - 1, by omega, i + 1, o'', by omega, h₄.1, h₄.2, hi₂⟩
    | brk => exact h₄.elim
    | ret v => exact h₄

theorem x_for {x : Str} {iter : Expr} {body rest : List Stmt} {ds : List D} {pos px : Pos} {Q : Flow → Shared → Prop} (O : c.Ok K p loose mg mb k) (P : Nat → Prop) (σ : Nat → Vars) (mu : Nat → Muts) (hP : P 0)
    (hsrc : c.Src (σ 0) (mu 0) fx iter ds) (hl : c.env.kindOf x = some .local)
    (hbody : ∀ i d, P i → ds[i]? = some d → ∀ τ' fx', c.X ((x, d) :: σ i) τ' (mu i) fx' body (c.turn (P (i + 1)) (σ (i + 1)) τ' (mu (i + 1)) fx' (fun _ => False) Q))
    (hdone : P ds.length → c.X (σ ds.length) τ (mu ds.length) fx rest Q)
    (hs : ∀ x, foldedSetIterable iter c.env x = pure x) (ht : ∀ it v, letOwnedTupleGo (.Name x px) it v = pure ()) : c.X (σ 0) τ (mu 0) fx (.For (.Name x px) iter body [] pos :: rest) Q :=
  x_forF O P σ mu hP hsrc hl (fun i d hPi hd τ' q => hbody i d hPi hd τ' (q :: fx)) hdone hs ht

theorem x_turn {P : Prop} {B : Shared → Prop} {Q : Flow → Shared → Prop} {mu' : Muts} (hp : P) (hw : ∀ x d, σ'.lookup x = some d → σ.lookup x = some d) (hm : mu = mu') : c.X σ τ mu fx [] (c.turn P σ' τ mu' fx B Q) := by
  subst hm
  exact fun s S => wpAny_execs_nil ⟨hp, S.vars hw⟩

/-! ### ways that meet -/
def Fc.meet {ι : Type} (c : Fc) (R : ι → Prop) (σj : ι → Vars) (τ : Tmps) (mu : Muts) (fx : Fixs) (Q : Flow → Shared → Prop) : Flow → Shared → Prop := fun f s' => match f with
  | .next => ∃ j, R j ∧ c.S (σj j) τ mu fx s'
  | f => Q f s'
theorem x_cut {ι : Type} {st : Stmt} {rest : List Stmt} {Q : Flow → Shared → Prop} (R : ι → Prop) (σj : ι → Vars) (h₁ : c.X σ τ mu fx [st] (c.meet R σj τ mu fx Q)) (h₂ : ∀ j, R j → c.X (σj j) τ mu fx rest Q) : c.X σ τ mu fx (st :: rest) Q := by
  intro s S
  refine cons_of ?_
  refine wpAny_mono (h := exec_of_one (h₁ s S)) (fun f s' h => ?_) fun _ _ f => f
  cases f with
  | next => obtain ⟨j, hj, S'⟩ := h; exact h₂ j hj s' S'
  | brk => exact h
  | cont => exact h
  | ret v => exact h
theorem x_meet {ι : Type} {R : ι → Prop} {σj : ι → Vars} {Q : Flow → Shared → Prop} (j : ι) (hj : R j) (hw : ∀ x d, (σj j).lookup x = some d → σ.lookup x = some d) : c.X σ τ mu fx [] (c.meet R σj τ mu fx Q) :=
  fun s S => wpAny_execs_nil ⟨j, hj, S.vars hw⟩

/-! ### while -/
theorem x_while {ι : Type} {t : Expr} {body orelse rest : List Stmt} {pos : Pos} {Q : Flow → Shared → Prop} (P : ι → Prop) (σ : ι → Vars) (mu : ι → Muts) (n : ι → Nat) (b : ι → Bool) (i₀ : ι) (h₀ : P i₀)
    (ht : ∀ i, P i → c.Tr (σ i) (mu i) fx t (b i))
    (hbody : ∀ i, P i → b i = true → c.X (σ i) τ (mu i) fx body (fun f s' => match f with
      | .next | .cont => ∃ j, P j ∧ n j < n i ∧ c.S (σ j) τ (mu j) fx s'
      | .brk => c.wp (execs rest c.env) Q s'
      | .ret v => Q (.ret v) s'))
    (hdone : ∀ i, P i → b i = false → c.X (σ i) τ (mu i) fx orelse (c.seq rest Q)) : c.X (σ i₀) τ (mu i₀) fx (.While t body orelse pos :: rest) Q := by
  intro s S
  refine cons_of (wpAny_While ?_)
  refine codeAny_whileLoop (fun k s' => ∃ i, P i ∧ n i = k ∧ c.S (σ i) τ (mu i) fx s') ?_ (n i₀) ⟨i₀, h₀, rfl, S⟩
  rintro k s' ⟨i, hi, rfl, S'⟩
  refine wp_any (ht i hi τ s' S') fun x s₁ h₁ => ?_
  obtain ⟨rfl, S₁⟩ := h₁
  cases hb : b i with
  | false => exact wp_any (hdone i hi hb s₁ S₁) fun _ _ h => h
  | true =>
    refine wp_any (hbody i hi hb s₁ S₁) fun f s₂ h₂ => ?_
    cases f with
    | next => obtain ⟨j, hj, hn, S₂⟩ := h₂; exact ⟨n j, hn, j, hj, rfl, S₂⟩
    | cont => obtain ⟨j, hj, hn, S₂⟩ := h₂; exact ⟨n j, hn, j, hj, rfl, S₂⟩
    | brk => exact h₂
    | ret v => exact h₂
end
end Mine

end
/-! ## F5 -/
section
open PySem PySem.W PyProof.Rows PySem.Calls
namespace Mine
section
variable {c : Fc} {K : Frag} {p : Program} {loose : List Str} {mg mb : Str → Option Value} {k : Nat}
variable {σ σ' : Vars} {τ : Tmps} {mu : Muts} {fx : Fixs} {s : Shared}

theorem append_ {a : Addr} {x : Value} {d : D} {ds : List D} (S : c.S σ ((x, d) :: τ) ((a, true, ds) :: mu) fx s) (hn : ds.length ≤ sizeLine) :
    c.wp (call (.builtin "list.append") [.ref a, x]) (fun v s' => v = .none ∧ c.S σ τ ((a, true, ds ++ [d]) :: mu) fx s') s := by
  obtain ⟨g, m, I⟩ := S
  obtain ⟨⟨vs, hl, hi⟩, _⟩ := I.muts _ (.head _)
  refine list_append_plainL hl.plain (fun h' hl' hs => ⟨rfl, g, m, ?_⟩) (by simpa [hi.length] using hn)
  exact I.pop.setMut (vs := vs ++ [x]) hs.extBut (.of_plain (by simpa using hl')) (hi.append (.cons (I.tmps _ (.head _)) .nil))

theorem iter_self {I : Addr} {o : Obj} {ds : List D} {i : Nat} {Q : Value → Shared → Prop} (hi : IterObj τ ds i o) (ho : s.heap.get? I = some o) (h : Q (.ref I) s) : c.wp (pyIter (.ref I)) Q s := by
  rcases hi with ⟨l, hc, hd, _⟩ | ⟨a, n, rfl, _⟩
  · exact wpAny_pyIter_listiter (l := l) (i := i) ⟨o, ho, hc, hd⟩ h
  · exact wpAny_pyIter_rangeiter ho h

/-- the frame of a comprehension -/
def Fc.compC (c : Fc) (scope : Scope) (cl : List (Str × Addr)) (C : Addr) (g : Heap) (s₁ : Shared) : Fc := { prog := c.prog, w := c.w, A := c.A, env := compEnvC scope cl C c.env, Ba := c.Ba, g₀ := g, s₀ := s₁ }
abbrev Fc.comp (c : Fc) (scope : Scope) (C : Addr) (g : Heap) (s₁ : Shared) : Fc := c.compC scope [] C g s₁
theorem Fc.Ok.comp (O : c.Ok K p loose mg mb k) {scope : Scope} {cl : List (Str × Addr)} {C : Addr} {g : Heap} {s₁ : Shared} (hk : scope.kind = .function) : (c.compC scope cl C g s₁).Ok K p loose mg mb k :=
  ⟨O.base, O.handled, O.depth, O.units, hk, O.globals, O.builtins⟩

theorem Grow.of_inner {Ba : Heap → Prop} {g : Heap} {s₁ : Shared} {C : Addr} {g' h' : Heap} {m : Str → Option Value} {s' : Shared} {tk : Nat} (I : In Ba g s₁ C σ τ mu fx g' m s') (hs : Heap.ExtBut C s'.heap h') :
    Grow s₁ g { s' with heap := h', toks := tk } g' := by
  obtain ⟨h, t, e⟩ := I.same
  refine ⟨⟨h', tk, by rw [e]⟩, fun b o e => ?_, I.gk, fun b o e => ?_, fun b o e => ?_⟩
  · exact hs b o (Nat.ne_of_lt (Nat.lt_of_lt_of_le (Heap.lt_size e) I.Ls)) (I.keep b o e)
  · exact hs b o (by rintro rfl; rw [I.Lg] at e; cases e) (I.gh b o e)
  · exact I.new b o e

/-- the tuple of an iterator of a list stays -/
theorem own_ {target : Expr} {I : Addr} {o : Obj} {ds : List D} {i : Nat} {v : Value} {Q : Unit → Shared → Prop} (hi : IterObj τ ds i o) (ho : s.heap.get? I = some o) (h : Q () s) : c.wp (letOwnedTupleGo target (.ref I) v) Q s := by
  unfold letOwnedTupleGo
  cases target <;> first | exact wpAny_pure h | skip
  all_goals
    cases v <;> first | exact wpAny_pure h | skip
    refine wpAny_bind (wpAny_load ho ?_)
    rcases hi with ⟨l, hc, hd, _⟩ | ⟨a', n, rfl, _⟩
    · rw [hc, hd]
      dsimp only
      rw [show (["enumerate", "zip", "dict_itemiterator", "dict_reverseitemiterator", "odict_iterator", "itertools.zip_longest", "itertools.pairwise"] : List String).contains "list_iterator" = false from by decide, Bool.false_and, if_neg Bool.false_ne_true]
      exact wpAny_pure h
    · dsimp only
      rw [show (["enumerate", "zip", "dict_itemiterator", "dict_reverseitemiterator", "odict_iterator", "itertools.zip_longest", "itertools.pairwise"] : List String).contains "range_iterator" = false from by decide, Bool.false_and, if_neg Bool.false_ne_true]
      exact wpAny_pure h

/-- the turns of a comprehension of one source, whatever it unpacks -/
theorem comp_turns {prog : Program} {w : World} {A : Around} {R : Result → Shared → Prop} {s : Shared} {elt target iter : Expr} {scope : Scope} {pos : Pos} {it acc : Value} {env : Env} (I : Nat → Shared → Prop)
    (turn : ∀ n s, I n s → wpAny (model prog w) A (pyNext it) (fun r s₁ => match r with
      | none => R (.ok .next) s₁
      | some v => wpAny (model prog w) A (letOwnedTupleGo target it v) (fun _ s₀ => wpAny (model prog w) A (assign target env v) (fun _ s₂ => wpAny (model prog w) A (eval elt env) (fun x s₃ =>
          wpAny (model prog w) A (call (.builtin "list.append") [acc, x]) (fun _ s₄ => ∃ m, m < n ∧ I m s₄) (notedBy (model prog w) A env fun e s' => R (.error e) s') s₃)
          (notedBy (model prog w) A env fun e s' => R (.error e) s') s₂) (notedBy (model prog w) A env fun e s' => R (.error e) s') s₀) (notedBy (model prog w) A env fun e s' => R (.error e) s') s₁)
        (notedBy (model prog w) A env fun e s' => R (.error e) s') s)
    (n : Nat) (h : I n s) : codeAny (model prog w) A (.compLoop (.ListComp elt [⟨target, iter, [], 0⟩] scope pos) 0 it acc env) R s := by
  refine codeAny_loop rfl I (fun n s hI => ?_) n h
  show wpAny _ _ ((compTurn (.ListComp elt [⟨target, iter, [], 0⟩] scope pos) 0 it acc env).onRaise (fun x => do noteFrame x env; theTreesLotGoes x)) _ _ s
  refine wpAny_noted ?_
  rw [compTurn_list1]
  refine wpAny_bind (wpAny_standAt (wpAny_bind (wpAny_mono (turn n s hI) (fun r s₁ h₁ => ?_) fun _ _ e => e)))
  cases r with
  | none => exact wpAny_pure h₁
  | some v =>
    refine wpAny_bind (wpAny_mono h₁ (fun _ s₀ h₀ => wpAny_bind (wpAny_mono h₀ (fun _ s₂ h₂ => wpAny_bind (wpAny_bind (wpAny_mono h₂ (fun x s₃ h₃ => wpAny_bind (wpAny_mono h₃ (fun _ s₄ h₄ => ?_) fun _ _ e => e)) fun _ _ e => e))) fun _ _ e => e)) fun _ _ e => e)
    exact wpAny_pure (wpAny_pure ⟨rfl, h₄⟩)

/-- the heart of a list comprehension of one source: the answer is the list of the elements' data -/
theorem comp_core {elt target iter : Expr} {scope : Scope} {cl : List (Str × Addr)} {pos : Pos} {ds : List D} {f : Nat → D} {R : Value → Addr → Result → Shared → Prop} (O : c.Ok K p loose mg mb k)
    (hcell : ∀ y ∈ scope.names, y.2 ≠ .cell) (hkind : scope.kind = .function) (hn : ds.length ≤ sizeLine)
    {g : Heap} {m : Str → Option Value} {τ' : Tmps} {o : Obj} {s₁ : Shared} (J : In c.Ba c.g₀ c.s₀ c.env.locals σ (τ' ++ τ) mu fx g m s₁) (hi : IterObj τ' ds 0 o) (hfr : o.isFreed = false)
    (hel : ∀ C i d, ds[i]? = some d → ∀ τ' mu' fx' v s, (c.compC scope cl C g s₁).S [] ((v, d) :: τ') mu' fx' s →
      c.wp (assign target (compEnvC scope cl C c.env) v) (fun _ s' => c.wp (eval elt (compEnvC scope cl C c.env)) (fun y s'' => (c.compC scope cl C g s₁).S [] ((y, f i) :: τ') mu' fx' s'') s') s)
    (hR : ∀ D C g' m' s', In c.Ba g s₁ C [] [] [] [] g' m' s' → Is g' (.ref D) (.list ((List.range ds.length).map f)) → R (.ref D) C (.ok .next) s') :
    c.wp (newList []) (fun acc s₃ => c.wp (newFunctionEnv scope c.env.globals cl [] c.env.qual none .none (some c.env)) (fun cenv s₄ =>
      codeAny (model c.prog c.w) c.A (.compStart (.ListComp elt [⟨target, iter, [], 0⟩] scope pos) 0 (.ref s₁.heap.objs.size) acc { cenv with scope := relabel scope c.env }) (R acc cenv.locals) s₄) s₃)
      { s₁ with heap := s₁.heap.push o } := by
  refine wpAny_newObj_type (wpAny_newFunctionEnv hcell (by intro y hy; simp at hy) (fun h₁ hns₁ hsb₁ => ?_) hkind)
  dsimp only at hns₁ hsb₁ ⊢
  generalize hH1 : s₁.heap.push o = H1 at hns₁ hsb₁ ⊢
  have hD : H1.objs.size = s₁.heap.objs.size + 1 := by rw [← hH1, Heap.size_push]
  generalize hH2 : H1.push { cls := .type "list", dict := none, data := .seq ([] : List Value).toArray } = H2 at hns₁ hsb₁ ⊢
  have hC : H2.objs.size = s₁.heap.objs.size + 2 := by rw [← hH2, Heap.size_push, hD]
  have old : s₁.heap.StaysIn h₁ := fun b x e =>
    hsb₁.extBut b x (by have h1 := Heap.lt_size e; have h2 := hC; intro q; subst q; exact absurd h1 (by rw [h2]; exact Nat.not_lt.mpr (Nat.le_add_right _ _))) (Heap.get?_push_of_some _ (hH2 ▸ Heap.get?_push_of_some _ (hH1 ▸ Heap.get?_push_of_some _ e)))
  have hDC : H1.objs.size ≠ H2.objs.size := by rw [hD, hC]; exact Nat.ne_of_lt (Nat.lt_succ_self _)
  have hIC : s₁.heap.objs.size ≠ H2.objs.size := by rw [hC]; exact Nat.ne_of_lt (Nat.lt_succ_of_lt (Nat.lt_succ_self _))
  have hDI : H1.objs.size ≠ s₁.heap.objs.size := by rw [hD]; exact Nat.succ_ne_self _
  have hio : h₁.get? s₁.heap.objs.size = some o := hsb₁.extBut _ _ hIC (Heap.get?_push_of_some _ (hH2 ▸ Heap.get?_push_of_some _ (hH1 ▸ Heap.get?_push_size _ hfr)))
  have hacc : LK true h₁ H1.objs.size ([] : List Value).toArray := ⟨_, _, hsb₁.extBut _ _ hDC (Heap.get?_push_of_some _ (hH2 ▸ Heap.get?_push_size _ rfl)), rfl, fun _ => rfl, rfl⟩
  have miss : ∀ b, s₁.heap.objs.size ≤ b → g.get? b = none := fun b hb => J.stable_lt hb
  have S0 : (c.compC scope cl H2.objs.size g s₁).S [] τ' [(H1.objs.size, true, [])] [(s₁.heap.objs.size, o)] { s₁ with heap := h₁, toks := s₁.toks + ([] : List (Str × Value)).length } := by
    refine ⟨g, fun x => List.lookup x ([] : List (Str × Value)).reverse, ?_⟩
    exact {
      same := ⟨_, _, rfl⟩
      keep := old
      gk := fun _ _ e => e
      gh := fun b x e => old b x (J.gh b x e)
      new := fun b x e => .inl ⟨x, e⟩
      base := J.base
      ns := hns₁
      Ls := by show s₁.heap.objs.size ≤ H2.objs.size; rw [hC]; exact Nat.le_add_right _ _
      Lg := miss _ (by show s₁.heap.objs.size ≤ H2.objs.size; rw [hC]; exact Nat.le_add_right _ _)
      vars := fun x d e => by cases e
      tmps := fun q hq => J.tmps q (List.mem_append_left _ hq)
      muts := fun q hq => by
        rw [List.mem_singleton.mp hq]
        exact ⟨⟨[], hacc, .nil⟩, miss _ (by rw [hD]; exact Nat.le_succ _), (by show s₁.heap.objs.size ≤ H1.objs.size; rw [hD]; exact Nat.le_succ _), hDC⟩
      fixs := fun q hq => by
        rw [List.mem_singleton.mp hq]
        exact ⟨hio, miss _ (Nat.le_refl _), Nat.le_refl _, hIC⟩
      apart := by simpa using hDI }
  have O' : (c.compC scope cl H2.objs.size g s₁).Ok K p loose mg mb k := O.comp hkind
  have loop : ∀ s₃ : Shared, s₃ = { s₁ with heap := h₁, toks := s₁.toks + ([] : List (Str × Value)).length } →
      codeAny (model c.prog c.w) c.A (.compLoop (.ListComp elt [⟨target, iter, [], 0⟩] scope pos) 0 (.ref s₁.heap.objs.size) (.ref H1.objs.size) (compEnvC scope cl H2.objs.size c.env)) (R (.ref H1.objs.size) H2.objs.size) s₃ := by
    rintro s₃ rfl
    refine comp_turns (fun n s' => ∃ i o', n + i = ds.length ∧ (c.compC scope cl H2.objs.size g s₁).S [] τ' [(H1.objs.size, true, (List.range i).map f)] [(s₁.heap.objs.size, o')] s' ∧ IterObj τ' ds i o') ?_ ds.length ⟨0, o, by omega, S0, hi⟩
    rintro n s' ⟨i, o', hni, S', hi'⟩
    cases hd : ds[i]? with
    | none =>
      have hlen : i = ds.length := by
        have := List.getElem?_eq_none_iff.mp hd
        omega
      subst hlen
      refine wp_any (next_none (c := c.compC scope cl H2.objs.size g s₁) O' hi' S' (Q := fun r s₂ => r = none ∧ (c.compC scope cl H2.objs.size g s₁).S [] τ' [(H1.objs.size, true, (List.range ds.length).map f)] [] s₂) fun s₂ S₂ => ⟨rfl, S₂⟩) fun r s₂ h₂ => ?_
      obtain ⟨rfl, g₂, m₂, I₂⟩ := h₂
      obtain ⟨g₃, I₃, _, hl₃⟩ := I₂.freeze O'.mono
      exact hR _ _ g₃ m₂ s₂ { I₃ with tmps := fun q hq => nomatch hq } hl₃
    | some d =>
      have hlt : i < ds.length := by
        rcases Nat.lt_or_ge i ds.length with h1 | h1
        · exact h1
        · rw [List.getElem?_eq_none h1] at hd; cases hd
      refine wp_any (next_some (c := c.compC scope cl H2.objs.size g s₁) hi' hd S' (Q := fun r s₂ => ∃ v o'', r = some v ∧ (c.compC scope cl H2.objs.size g s₁).S [] ((v, d) :: τ') [(H1.objs.size, true, (List.range i).map f)] [(s₁.heap.objs.size, o'')] s₂ ∧ IterObj τ' ds (i + 1) o'')
        fun v s₂ o'' S₂ h₂ => ⟨v, o'', rfl, S₂, h₂⟩) fun r s₂ h₂ => ?_
      obtain ⟨v, o'', rfl, S₂, hi₂⟩ := h₂
      refine wp_any (own_ (c := c.compC scope cl H2.objs.size g s₁) (Q := fun _ s' => s' = s₂) hi₂ (by obtain ⟨_, _, I₂⟩ := S₂; exact (I₂.fixs _ (.head _)).1) rfl) fun _ s₂' h₂' => ?_
      subst h₂'
      refine wp_any (hel _ i d hd _ _ _ v _ S₂) fun _ s₃ h₃ => wp_any h₃ fun y s₄ S₄ => ?_
      refine wp_any (append_ (c := c.compC scope cl H2.objs.size g s₁) S₄ (by simp; omega)) fun _ s₅ h₅ => ?_
      obtain ⟨_, S₅⟩ := h₅
      refine ⟨n - 1, by omega, i + 1, o'', by omega, ?_, hi₂⟩
      rw [List.range_succ, List.map_append]
      exact S₅
  exact codeAny_compStart_list (loop _ rfl) (wp_any (iter_self (c := c.compC scope cl H2.objs.size g s₁) hi hio (Q := fun it' s' => it' = .ref s₁.heap.objs.size ∧ s' = { s₁ with heap := h₁, toks := s₁.toks + ([] : List (Str × Value)).length }) ⟨rfl, rfl⟩)
    fun it' s' h' => by obtain ⟨rfl, rfl⟩ := h'; exact loop _ rfl)

/-- what the elements must give -/
def Fc.Elt (c : Fc) (K : Frag) (p : Program) (loose : List Str) (mg mb : Str → Option Value) (k : Nat) (scope : Scope) (target elt : Expr) (ds : List D) (f : Nat → D) : Prop :=
  ∀ C g s₁, (c.comp scope C g s₁).Ok K p loose mg mb k → ∀ i d, ds[i]? = some d → ∀ τ' mu' fx' v s, (c.comp scope C g s₁).S [] ((v, d) :: τ') mu' fx' s →
    c.wp (assign target (compEnvC scope [] C c.env) v) (fun _ s' => c.wp (eval elt (compEnvC scope [] C c.env)) (fun y s'' => (c.comp scope C g s₁).S [] ((y, f i) :: τ') mu' fx' s'') s') s

theorem ev_comp {elt target iter : Expr} {scope : Scope} {pos : Pos} {ds : List D} {f : Nat → D} (O : c.Ok K p loose mg mb k) (hsrc : c.Src σ mu fx iter ds)
    (hel : c.Elt K p loose mg mb k scope target elt ds f) (hn : ds.length ≤ sizeLine)
    (hfree : ∀ y ∈ scope.names, y.2 ≠ .free) (hcell : ∀ y ∈ scope.names, y.2 ≠ .cell) (hkind : scope.kind = .function) (hnames : ∀ y ∈ scope.names, y.2 = .local → scope.names.lookup y.1 = some .local)
    (hs : ∀ x, foldedSetIterable iter c.env x = pure x) :
    c.Ev σ mu fx (.ListComp elt [⟨target, iter, [], 0⟩] scope pos) (.list ((List.range ds.length).map f)) := by
  intro τ s S
  rw [eval_ListComp]
  refine wpAny_comprehension_free (use := none) (cl := []) rfl hs (closureFor_none hfree) hkind hnames (wpAny_mono (hsrc τ s S) (fun xv s₁ h₁ => ?_) fun _ _ f => f)
  obtain ⟨τ', o, ⟨g, m, J⟩, hi, hfr, hit⟩ := h₁
  refine hit _ ?_
  refine comp_core (R := fun acc C => compPost (model c.prog c.w) c.A Fa none (fun v s' => c.S σ ((v, .list ((List.range ds.length).map f)) :: τ) mu fx s') acc C) O hcell hkind hn J hi hfr (fun C i d hd τ' mu' fx' v s hS => hel C g s₁ (O.comp hkind) i d hd τ' mu' fx' v s hS) ?_
  intro D C g' m' s' I' hl
  refine ⟨m', I'.ns, fun h' hs' => ?_⟩
  have G := Grow.of_inner (tk := s'.toks) I' hs'.extBut
  exact ((J.grown O G).cut.push hl).st

/-- «y = [.. for ..]» -/
theorem x_assign_comp {y : Str} {elt target iter : Expr} {scope : Scope} {pos spos py : Pos} {ds : List D} {f : Nat → D} {rest : List Stmt} {Q : Flow → Shared → Prop} (O : c.Ok K p loose mg mb k) (hsrc : c.Src σ mu fx iter ds)
    (hel : c.Elt K p loose mg mb k scope target elt ds f) (hn : ds.length ≤ sizeLine) (hr : c.X ((y, .list ((List.range ds.length).map f)) :: σ) τ mu fx rest Q) (hl : c.env.kindOf y = some .local)
    (hsw : swapsWith (.ListComp elt [⟨target, iter, [], 0⟩] scope pos) (some (.Name y py)) spos.line c.env = pure true)
    (hfree : ∀ y ∈ scope.names, y.2 ≠ .free) (hcell : ∀ y ∈ scope.names, y.2 ≠ .cell) (hkind : scope.kind = .function) (hnames : ∀ y ∈ scope.names, y.2 = .local → scope.names.lookup y.1 = some .local)
    (hs : ∀ x, foldedSetIterable iter c.env x = pure x) :
    c.X σ τ mu fx (.Assign [.Name y py] (.ListComp elt [⟨target, iter, [], 0⟩] scope pos) spos :: rest) Q := by
  intro s S
  refine cons_of ?_
  rw [exec_Assign_Name_used _ _ _ _ hsw]
  refine wpAny_bind (wpAny_standAt (wpAny_bind ?_))
  show wpAny _ c.A (do let _ ← comprehension (.ListComp elt [⟨target, iter, [], 0⟩] scope pos) scope c.env _ (newList []) false (eval iter c.env) (some (assign (.Name y py) c.env))) _ _ s
  refine wpAny_bind (wpAny_mono (wpAny_comprehension_free (use := some (assign (.Name y py) c.env)) (cl := []) (Q := fun _ s' => c.wp (execs rest c.env) Q s') rfl hs (closureFor_none hfree) hkind hnames
    (wpAny_mono (hsrc τ s S) (fun xv s₁ h₁ => ?_) fun _ _ f => f)) (fun _ s' hq => wpAny_pure (wpAny_pure hq)) fun _ _ f => f)
  obtain ⟨τ', o, ⟨g, m, J⟩, hi, hfr, hit⟩ := h₁
  refine hit _ ?_
  refine comp_core (R := fun acc C => compPost (model c.prog c.w) c.A Fa (some (assign (.Name y py) c.env)) (fun _ s' => c.wp (execs rest c.env) Q s') acc C) O hcell hkind hn J hi hfr (fun C i d hd τ' mu' fx' v s hS => hel C g s₁ (O.comp hkind) i d hd τ' mu' fx' v s hS) ?_
  intro D C g' m' s' I' hl'
  have G : Grow s₁ g s' g' := Grow.of_inner (tk := s'.toks) I' (Heap.ExtBut.refl C s'.heap)
  have I₂ := (J.grown O G).cut.push hl'
  obtain ⟨oC, es, ep, hoC, hrest⟩ := I'.ns
  have hge : s₁.heap.objs.size ≤ C := I'.Ls
  have I₃ := I₂.addFix hoC I'.Lg (Nat.le_trans (Nat.le_of_lt J.s0_lt) hge) (Nat.ne_of_gt (Nat.lt_of_lt_of_le J.L_lt hge)) (fun q hq => Nat.ne_of_lt (Nat.lt_of_lt_of_le (J.mut_lt hq) hge)) fun q hq => Nat.ne_of_lt (Nat.lt_of_lt_of_le (J.fix_lt hq) hge)
  show wpAny _ c.A (assign (.Name y py) c.env (.ref D)) _ _ _
  refine wpAny_assign_Name (store_ O hl I₃.st fun s'' S'' => ?_)
  obtain ⟨g₄, m₄, I₄⟩ := S''
  refine ⟨_, ⟨oC, es, ep, (I₄.fixs _ (.head _)).1, hrest⟩, fun h' hs' => hr _ (I₄.dropFix (tk := s''.toks) hs'.extBut).st⟩
end
end Mine

end
/-! ## F6 -/
section
open PySem PySem.W PyProof.Rows PySem.Calls
namespace Mine

/-- the text of these signs -/
def T (l : List Nat) : Str := ⟨l.toArray⟩
theorem T_length (l : List Nat) : (T l).length = l.length := by unfold T Str.length; simp
theorem T_toList (l : List Nat) : (T l).cps.toList = l := by unfold T; simp
theorem T_of (x : Str) : T x.cps.toList = x := by unfold T; cases x; simp
theorem T_inj {a b : List Nat} (h : T a = T b) : a = b := by have := congrArg (fun x : Str => x.cps.toList) h; simpa [T] using this
theorem T_append (a b : List Nat) : T a ++ T b = T (a ++ b) := Str.ext' (by rw [Str.cps_append]; unfold T; simp)

theorem filterMap_get {g : Heap} {vs : List Value} {ds : List D} (h : IsAll g vs ds) : ∀ l : List Nat, IsAll g (l.filterMap (vs[·]?)) (l.filterMap (ds[·]?))
  | [] => .nil
  | i :: l => by
    have ih := filterMap_get h l
    simp only [List.filterMap_cons]
    cases hd : ds[i]? with
    | none =>
      have : vs[i]? = none := by
        rw [List.getElem?_eq_none_iff] at hd ⊢
        rw [h.length]; exact hd
      simp only [this]; exact ih
    | some d =>
      obtain ⟨v, hv, hi⟩ := h.get hd
      simp only [hv]; exact .cons hi ih

section
variable {c : Fc} {K : Frag} {p : Program} {loose : List Str} {mg mb : Str → Option Value} {k : Nat}
variable {σ σ' : Vars} {τ : Tmps} {mu : Muts} {fx : Fixs} {s : Shared}

/-! ### built-in functions -/
theorem op_len_list {ds : List D} (hn : ds.length ≤ sizeLine) : c.Op1 σ mu fx (fun v => call (.builtin "len") [v]) (.list ds) (.int ds.length) := by
  rintro τ s v ⟨g, m, I⟩
  obtain ⟨l, vs, rfl, hl, ha⟩ := is_list (I.tmps _ (.head _))
  refine PyProof.Rows.len_list (IsList.keeps hl I.gh) ?_ ?_
  · have := sizeLine_eq; simp [ha.length]; omega
  · have e : (vs.toArray.size : Int) = ds.length := by simp [ha.length]
    rw [e]
    exact (I.pop.tok.push (.int _ _)).st
theorem op_len_str {x : Str} (hn : x.length ≤ sizeLine) : c.Op1 σ mu fx (fun v => call (.builtin "len") [v]) (.str x) (.int x.length) := by
  rintro τ s v ⟨g, m, I⟩
  obtain ⟨t, rfl⟩ := is_str (I.tmps _ (.head _))
  refine PyProof.Rows.len_str ?_ (I.pop.tok.push (.int _ _)).st
  have := sizeLine_eq; omega
theorem op_ord {n : Nat} : c.Op1 σ mu fx (fun v => call (.builtin "ord") [v]) (.str (T [n])) (.int n) := by
  rintro τ s v ⟨g, m, I⟩
  obtain ⟨t, rfl⟩ := is_str (I.tmps _ (.head _))
  exact PyProof.Rows.ord_of_one rfl (I.pop.tok.push (.int _ _)).st
theorem op_chr {n : Int} (h0 : 0 ≤ n) (h1 : n ≤ 1114111) : c.Op1 σ mu fx (fun v => call (.builtin "chr") [v]) (.int n) (.str (T [n.toNat])) := by
  rintro τ s v ⟨g, m, I⟩
  obtain ⟨t, rfl⟩ := is_int (I.tmps _ (.head _))
  exact PyProof.Rows.chr_of_range h0 h1 (I.pop.tok.push (.str _ _)).st

theorem preSum_eq (ns : List Int) : ∀ j, j ≤ ns.length → preSum (fun i => (ns[i]?).getD 0) j = (ns.take j).sum
  | 0, _ => by simp [preSum]
  | j + 1, h => by
    have ih := preSum_eq ns j (by omega)
    have hj : ns[j]? = some ns[j] := by simp
    rw [List.take_add_one, hj, List.sum_append]
    simp only [preSum] at ih ⊢
    rw [ih]
    simp [hj]

theorem op_sum {ns : List Int} (O : c.Ok K p loose mg mb k) : c.Op1 σ mu fx (fun v => call (.builtin "sum") [v]) (.list (intsD ns)) (.int ns.sum) := by
  rintro τ s v ⟨g, m, I⟩
  obtain ⟨l, vs, rfl, hl, ha⟩ := is_list (I.tmps _ (.head _))
  have hls := IsList.keeps hl I.gh
  refine call_sum_walkG (wpAny_pyIter_list hls ⟨s.heap.objs.size, _, _, _, _, _, fun i => (ns[i]?).getD 0, rfl, Walks.list (by show c.A.handled = none; exact O.handled) s.heap.objs.size l ?_ vs.toArray, ⟨⟨_, Heap.get?_push_size _ rfl, rfl, rfl⟩, hls.push _⟩, ?_, ?_, ?_⟩)
  · obtain ⟨o, ho, _⟩ := hls
    exact Nat.ne_of_lt (Heap.lt_size ho)
  · intro b hb
    obtain ⟨o, ho, _⟩ := hls
    have h1 := Heap.lt_size ho
    simp only [Heap.size_push]
    simp only [List.mem_cons, List.not_mem_nil, or_false] at hb
    rcases hb with rfl | rfl
    · exact Nat.lt_succ_self _
    · exact Nat.lt_succ_of_lt h1
  · intro i v hv
    have hv' : vs[i]? = some v := by simpa using hv
    obtain ⟨d, hd, hi⟩ := ha.get' hv'
    unfold intsD at hd
    rw [List.getElem?_map] at hd
    cases hn : ns[i]? with
    | none => rw [hn] at hd; cases hd
    | some n =>
      rw [hn] at hd
      obtain rfl := Option.some.inj hd
      show ∃ t, v = Value.int ((ns[i]?).getD 0) t
      rw [hn]
      exact is_int hi
  · intro h' tk t' hk
    have hsz : vs.toArray.size = ns.length := by have := ha.length; simp [intsD] at this; simpa using this
    rw [hsz, preSum_eq ns _ (Nat.le_refl _), List.take_length]
    have hk' : s.heap.StaysIn h' := fun b o e => hk b o (by
      simp only [List.mem_cons, List.not_mem_nil, or_false]
      exact Nat.ne_of_lt (Heap.lt_size e)) (Heap.get?_push_of_some _ e)
    exact ((I.step (tk := tk) hk').pop.push (.int _ _)).st

/-! ### items -/
theorem ev_sub {value slice : Expr} {d₁ d₂ d : D} {pos : Pos} (hv : c.Ev σ mu fx value d₁) (hi : c.Ev σ mu fx slice d₂) (hop : c.Op2 σ mu fx (subscriptTail value slice) d₁ d₂ d) : c.Ev σ mu fx (.Subscript value slice pos) d := by
  intro τ s S
  exact Subscript_ (wpAny_mono (hv τ s S) (fun v₁ s₁ S₁ => wpAny_mono (hi _ s₁ S₁) (fun v₂ s₂ S₂ => hop τ s₂ v₁ v₂ S₂) fun _ _ f => f) fun _ _ f => f)

theorem op_item {value slice : Expr} {ds : List D} {i : Int} {d : D} (h0 : 0 ≤ i) (hfit : i < 2 ^ 63) (hd : ds[i.toNat]? = some d)
    (hs : ∀ l u, subscripted slice false (.ref l) (.int i u) = operate [.ref l, .int i u] (getItem (.ref l) (.int i u))) : c.Op2 σ mu fx (subscriptTail value slice) (.list ds) (.int i) d := by
  rintro τ s v₁ v₂ ⟨g, m, I⟩
  obtain ⟨u, rfl⟩ := is_int (I.tmps _ (.head _))
  obtain ⟨l, vs, rfl, hl, ha⟩ := is_list (I.tmps _ (.tail _ (.head _)))
  obtain ⟨v, hv, hi⟩ := ha.get hd
  have hls := IsList.keeps hl I.gh
  exact PyProof.Rows.tail_any hls.typeIs slot_list_getitem.lookup (wpAny_getItem_list hls h0 hfit (by simpa using hv) (I.pop.pop.push hi).st) (hs l u)

theorem op_item_neg {value slice : Expr} {ds : List D} {i : Int} {d : D} (h0 : i < 0) (h1 : -(ds.length : Int) ≤ i) (hfit : -(2 ^ 63) ≤ i) (hd : ds[(i + ds.length).toNat]? = some d)
    (hs : ∀ l u, subscripted slice false (.ref l) (.int i u) = operate [.ref l, .int i u] (getItem (.ref l) (.int i u))) : c.Op2 σ mu fx (subscriptTail value slice) (.list ds) (.int i) d := by
  rintro τ s v₁ v₂ ⟨g, m, I⟩
  obtain ⟨u, rfl⟩ := is_int (I.tmps _ (.head _))
  obtain ⟨l, vs, rfl, hl, ha⟩ := is_list (I.tmps _ (.tail _ (.head _)))
  obtain ⟨v, hv, hi⟩ := ha.get hd
  have hls := IsList.keeps hl I.gh
  have e : (vs.toArray.size : Int) = ds.length := by simp [ha.length]
  exact PyProof.Rows.tail_any hls.typeIs slot_list_getitem.lookup (wpAny_getItem_list_neg hls h0 (by rw [e]; exact h1) hfit (by rw [e]; simpa using hv) (I.pop.pop.push hi).st) (hs l u)

theorem op_item_tup {value slice : Expr} {ds : List D} {i : Int} {d : D} (hlo : -(2 ^ 63) ≤ i) (hfit : i < 2 ^ 63) {j : Nat} (hj : seqIndex? i ds.length = some j) (hd : ds[j]? = some d)
    (hs : ∀ l u, subscripted slice false (.ref l) (.int i u) = operate [.ref l, .int i u] (getItem (.ref l) (.int i u))) : c.Op2 σ mu fx (subscriptTail value slice) (.tup ds) (.int i) d := by
  rintro τ s v₁ v₂ ⟨g, m, I⟩
  obtain ⟨u, rfl⟩ := is_int (I.tmps _ (.head _))
  obtain ⟨l, vs, rfl, hl, ha⟩ := is_tup (I.tmps _ (.tail _ (.head _)))
  obtain ⟨v, hv, hi⟩ := ha.get hd
  exact PyProof.Rows.item_tupleT (IsTup.keeps hl I.gh) hlo hfit (by rw [ha.length]; exact hj) hv (I.pop.pop.push hi).st (hs l u)

theorem op_item_str {value slice : Expr} {x : List Nat} {i : Int} {n : Nat} (h0 : -(2 ^ 63) ≤ i) (hfit : i < 2 ^ 63) (hd : (seqIndex? i x.length).bind (x[·]?) = some n)
    (hs : ∀ y t u, subscripted slice false (.str y t) (.int i u) = operate [.str y t, .int i u] (getItem (.str y t) (.int i u))) : c.Op2 σ mu fx (subscriptTail value slice) (.str (T x)) (.int i) (.str (T [n])) := by
  rintro τ s v₁ v₂ ⟨g, m, I⟩
  obtain ⟨u, rfl⟩ := is_int (I.tmps _ (.head _))
  obtain ⟨t, rfl⟩ := is_str (I.tmps _ (.tail _ (.head _)))
  refine PyProof.Rows.tail_any (T := "str") rfl slot_str_getitem.lookup (PyProof.Rows.getItem_str (c := n) ?_ ?_ (I.pop.pop.tok.push (.str _ _)).st) (hs _ t u)
  · rw [Bool.or_eq_false_iff, decide_eq_false_iff_not, decide_eq_false_iff_not]; omega
  · rw [T_length]
    cases hq : seqIndex? i x.length with
    | none => rw [hq] at hd; cases hd
    | some j => rw [hq] at hd; simpa [T] using hd

/-- an item of a list under change -/
theorem ev_item_mut {x : Str} {px pos : Pos} {slice : Expr} {a : Addr} {pl : Bool} {ds : List D} {i : Int} {d : D} (O : c.Ok K p loose mg mb k) (hx : σ.lookup x = some (.val (.ref a))) (hl : c.env.kindOf x = some .local) (hdb : (x == ("__debug__" : Str)) = false)
    (hi : c.Ev σ ((a, pl, ds) :: mu) fx slice (.int i)) (h0 : 0 ≤ i) (hfit : i < 2 ^ 63) (hd : ds[i.toNat]? = some d)
    (hs : ∀ l u, subscripted slice false (.ref l) (.int i u) = operate [.ref l, .int i u] (getItem (.ref l) (.int i u))) : c.Ev σ ((a, pl, ds) :: mu) fx (.Subscript (.Name x px) slice pos) d := by
  intro τ s S
  refine Subscript_ (wpAny_mono (ev_local (c := c) (mu := (a, pl, ds) :: mu) O hx hl hdb τ s S) (fun v₁ s₁ S₁ => wpAny_mono (hi _ s₁ S₁) (fun v₂ s₂ S₂ => ?_) fun _ _ f => f) fun _ _ f => f)
  obtain ⟨g, m, I⟩ := S₂
  obtain ⟨u, rfl⟩ := is_int (I.tmps _ (.head _))
  obtain rfl := is_val (I.tmps _ (.tail _ (.head _)))
  obtain ⟨⟨vs, hls, ha⟩, _⟩ := I.muts _ (.head _)
  obtain ⟨v, hv, hi⟩ := ha.get hd
  exact PyProof.Rows.tail_any (Heap.IsList.typeIs hls.isList) slot_list_getitem.lookup (wpAny_getItem_list hls.isList h0 hfit (by simpa using hv) (I.pop.pop.push hi).st) (hs a u)

/-! ### slices -/
def Fc.Pt (c : Fc) (σ : Vars) (mu : Muts) (fx : Fixs) (e : Option Expr) (lo : Option Int) : Prop :=
  ∀ τ s, c.S σ τ mu fx s → c.wp (evalPart e c.env) (fun v s' => IsPart v lo ∧ c.S σ τ mu fx s') s
theorem pt_none : c.Pt σ mu fx none none := fun _ _ S => PySem.evalPart_none_step ⟨.none, S⟩
theorem pt_some {e : Expr} {i : Int} (h : c.Ev σ mu fx e (.int i)) : c.Pt σ mu fx (some e) (some i) := by
  intro τ s S
  refine PySem.evalPart_some_step (wpAny_mono (h τ s S) (fun v s₁ S₁ => ?_) fun _ _ f => f)
  obtain ⟨g, m, I⟩ := S₁
  obtain ⟨t, rfl⟩ := is_int (I.tmps _ (.head _))
  exact ⟨.int i t, I.pop.st⟩

def cut {α : Type} (xs : List α) (lo hi : Option Int) : List α := (xs.drop (lo.elim 0 (clipAt xs.length))).take (hi.elim xs.length (clipAt xs.length) - lo.elim 0 (clipAt xs.length))

theorem ev_slice {value : Expr} {lower upper : Option Expr} {q pos : Pos} {ds : List D} {lo hi : Option Int} (O : c.Ok K p loose mg mb k) (hv : c.Ev σ mu fx value (.list ds)) (hlo : c.Pt σ mu fx lower lo) (hhi : c.Pt σ mu fx upper hi) (hn : ds.length ≤ sizeLine)
    (ht : ∀ o r, letTemporaryGo value o r = pure ()) : c.Ev σ mu fx (.Subscript value (.Slice lower upper none q) pos) (.list (cut ds lo hi)) := by
  intro τ s S
  refine wpAny_Subscript_list_slice (wpAny_mono (hv τ s S) (fun v s₁ S₁ => wpAny_mono (hlo _ s₁ S₁) (fun vl s₂ h₂ => wpAny_mono (hhi _ s₂ h₂.2) (fun vu s₃ h₃ => ?_) fun _ _ f => f) fun _ _ f => f) fun _ _ f => f) ht
  obtain ⟨pu, g, m, I⟩ := h₃
  obtain ⟨l, vs, rfl, hl, ha⟩ := is_list (I.tmps _ (.head _))
  refine ⟨l, vs.toArray, lo, hi, rfl, IsList.keeps hl I.gh, by simpa [ha.length] using hn, h₂.1, pu, ?_⟩
  rw [slicePick_plain]
  have hlen := ha.length
  have hc : IsAll g (cut vs lo hi) (cut ds lo hi) := by unfold cut; rw [hlen]; exact (ha.drop _).take _
  have e : (vs.toArray.toList.drop (lo.elim 0 (clipAt vs.toArray.size))).take (hi.elim vs.toArray.size (clipAt vs.toArray.size) - lo.elim 0 (clipAt vs.toArray.size)) = cut vs lo hi := by simp [cut]
  rw [e]
  refine I.pop.newList O hc (n := 0) (tk := s₃.toks) (fun b o e => Heap.get?_push_of_some _ (Heap.get?_push_of_some _ e)) ?_ (Nat.le_succ _)
  have := Heap.get?_push_size (s₃.heap.push { cls := .type "slice", data := .fields #[vl, vu, .none] }) (o := { cls := .type "list", data := .seq (cut vs lo hi).toArray }) rfl
  simpa only [Heap.size_push] using this

/-- a slice with a step: some of the items -/
def pick {α : Type} (xs : List α) (lo hi st : Option Int) : List α :=
  (sliceRange (sliceBounds lo hi st xs.length).1 (sliceBounds lo hi st xs.length).2.1 (sliceBounds lo hi st xs.length).2.2).filterMap (xs[·]?)
theorem pick_ints (ns : List Int) (lo hi st : Option Int) : pick (intsD ns) lo hi st = intsD (pick ns lo hi st) := by
  unfold pick intsD
  rw [List.map_filterMap]
  simp [List.getElem?_map]

theorem ev_slice_step {value st : Expr} {lower upper : Option Expr} {q pos : Pos} {ds : List D} {lo hi : Option Int} {n : Int} (O : c.Ok K p loose mg mb k) (hv : c.Ev σ mu fx value (.list ds)) (hlo : c.Pt σ mu fx lower lo) (hhi : c.Pt σ mu fx upper hi) (hst : c.Ev σ mu fx st (.int n)) (hn0 : n ≠ 0) (hn : ds.length ≤ sizeLine)
    (ht : ∀ o r, letTemporaryGo value o r = pure ()) : c.Ev σ mu fx (.Subscript value (.Slice lower upper (some st) q) pos) (.list (pick ds lo hi (some n))) := by
  intro τ s S
  refine wpAny_Subscript_Slice_step (T := "list") list_getitem_lookup (wpAny_mono (hv τ s S) (fun v s₁ S₁ => wpAny_Slice (wpAny_mono (hlo _ s₁ S₁) (fun vl s₂ h₂ => wpAny_mono (hhi _ s₂ h₂.2) (fun vu s₃ h₃ => PySem.evalPart_some_step (wpAny_mono (hst _ s₃ h₃.2) (fun vs s₄ S₄ => ?_) fun _ _ f => f)) fun _ _ f => f) fun _ _ f => f)) fun _ _ f => f) ht
  obtain ⟨g, m, I⟩ := S₄
  obtain ⟨u, rfl⟩ := is_int (I.tmps _ (.head _))
  obtain ⟨l, ws, rfl, hl, ha⟩ := is_list (I.tmps _ (.tail _ (.head _)))
  have hls := IsList.keeps hl I.gh
  have hls' := hls.push { cls := .type "slice", data := .fields #[vl, vu, .int n u] }
  refine ⟨hls'.typeIs, ?_⟩
  refine wpAny_getItem_list_slice hls' (Heap.IsSliceOf.new ..) h₂.1 h₃.1 (.int n u) (by simpa using hn0) ?_ (by simpa [ha.length] using hn)
  have e : slicePick ws.toArray lo hi (some n) = (pick ws lo hi (some n)).toArray := by simp [slicePick, pick]
  rw [e]
  have hc : IsAll g (pick ws lo hi (some n)) (pick ds lo hi (some n)) := by unfold pick; rw [ha.length]; exact filterMap_get ha _
  refine I.pop.pop.newList O hc (n := 0) (tk := s₄.toks) (fun b o e => Heap.get?_push_of_some _ (Heap.get?_push_of_some _ e)) ?_ (by simp only [Heap.size_push]; exact Nat.le_succ _)
  exact Heap.get?_push_size _ rfl

theorem strIdx (lo hi : Option Int) (n : Nat) : Builtin.Str.strSliceIndices lo hi 1 n = (List.range (hi.elim n (clipAt n) - lo.elim 0 (clipAt n))).map (lo.elim 0 (clipAt n) + ·) := by
  have h := sliceBounds_plain lo hi n
  have e : Builtin.Str.strSliceIndices lo hi 1 n = sliceRange (sliceBounds lo hi none n).1 (sliceBounds lo hi none n).2.1 1 := by
    unfold Builtin.Str.strSliceIndices sliceBounds
    cases lo <;> cases hi <;> rfl
  rw [e, h]
  exact sliceRange_one _ _

theorem cut_whole {α : Type} (xs : List α) (lo hi : Option Int) (h : (cut xs lo hi).length = xs.length) : cut xs lo hi = xs := by
  unfold cut at h ⊢
  rw [List.length_take, List.length_drop] at h
  rcases Nat.eq_zero_or_pos xs.length with hx | hx
  · have := List.length_eq_zero_iff.mp hx; subst this; simp
  · have h1 : lo.elim 0 (clipAt xs.length) = 0 := by omega
    rw [h1] at h ⊢
    have h2 : hi.elim xs.length (clipAt xs.length) - 0 ≥ xs.length := by omega
    rw [List.drop_zero, List.take_of_length_le h2]

theorem ev_slice_str {value : Expr} {lower upper : Option Expr} {q pos : Pos} {x : List Nat} {lo hi : Option Int} (hv : c.Ev σ mu fx value (.str (T x))) (hlo : c.Pt σ mu fx lower lo) (hhi : c.Pt σ mu fx upper hi) (hn : x.length ≤ sizeLine)
    (ht : ∀ o r, letTemporaryGo value o r = pure ()) : c.Ev σ mu fx (.Subscript value (.Slice lower upper none q) pos) (.str (T (cut x lo hi))) := by
  intro τ s S
  refine wpAny_Subscript_str_slice (wpAny_mono (hv τ s S) (fun v s₁ S₁ => wpAny_mono (hlo _ s₁ S₁) (fun vl s₂ h₂ => wpAny_mono (hhi _ s₂ h₂.2) (fun vu s₃ h₃ => ?_) fun _ _ f => f) fun _ _ f => f) fun _ _ f => f) ht
  obtain ⟨pu, g, m, I⟩ := h₃
  obtain ⟨t, rfl⟩ := is_str (I.tmps _ (.head _))
  have part : ∀ {v : Value} {lo : Option Int}, IsPart v lo → ∃ l : Option (Int × Tok), v = partValue l ∧ l.map (·.1) = lo := by
    intro v lo h
    cases h with
    | none => exact ⟨none, rfl, rfl⟩
    | int i t => exact ⟨some (i, t), rfl, rfl⟩
  obtain ⟨l, el, rfl⟩ := part h₂.1
  obtain ⟨u, eu, rfl⟩ := part pu
  refine ⟨T x, t, l, u, rfl, el, eu, ?_⟩
  have hp : ((slicePicked (T x) l u none).filterMap ((T x).cps[·]?)) = cut x (l.map (·.1)) (u.map (·.1)) := by
    unfold slicePicked
    show (Builtin.Str.strSliceIndices (l.map (·.1)) (u.map (·.1)) 1 (T x).length).filterMap _ = _
    rw [strIdx, T_length, pick_run, T_toList]
    rfl
  have hlen : (slicePicked (T x) l u none).length = (u.map (·.1)).elim x.length (clipAt x.length) - (l.map (·.1)).elim 0 (clipAt x.length) := by
    unfold slicePicked
    show (Builtin.Str.strSliceIndices (l.map (·.1)) (u.map (·.1)) 1 (T x).length).length = _
    rw [strIdx, T_length]; simp
  unfold sliceMade
  have J := I.step (h' := s₃.heap.push { cls := .type "slice", data := .fields #[vl, vu, .none] }) (tk := s₃.toks) (stays_push _ _)
  split
  · rename_i hc
    have hc' : (slicePicked (T x) l u none).length = x.length := by
      rw [Bool.and_eq_true] at hc
      have := of_decide_eq_true (p := (slicePicked (T x) l u none).length = (T x).length) (by simpa using hc.2)
      rw [T_length] at this; exact this
    have hw : cut x (l.map (·.1)) (u.map (·.1)) = x := by
      refine cut_whole _ _ _ ?_
      unfold cut
      rw [List.length_take, List.length_drop]
      rw [hlen] at hc'
      have hle : (u.map (·.1)).elim x.length (clipAt x.length) ≤ x.length := by
        cases u with
        | none => exact Nat.le_refl _
        | some q => show clipAt x.length q.1 ≤ x.length; have := clipAt_cast x.length q.1; omega
      omega
    rw [hw]
    exact (J.pop.push (.str _ _)).st
  · refine ⟨?_, ?_⟩
    · rw [hp]
      show (T (cut x _ _)).length ≤ sizeLine
      rw [T_length]
      unfold cut
      rw [List.length_take, List.length_drop]; omega
    · rw [hp]
      exact (J.pop.tok.push (.str _ _)).st
end
end Mine

end
/-! ## F7 -/
section
open PySem PySem.W PyProof.Rows PySem.Calls
namespace Mine
section
variable {c : Fc} {K : Frag} {p : Program} {loose : List Str} {mg mb : Str → Option Value} {k : Nat}
variable {σ σ' : Vars} {τ : Tmps} {mu : Muts} {fx : Fixs} {s : Shared} {rest : List Stmt} {Q : Flow → Shared → Prop}

/-! ### lists under change -/
/-- «x = []» -/
theorem x_new {x : Str} {pos pos' lp : Pos} (O : c.Ok K p loose mg mb k) (hr : ∀ a, c.X ((x, .val (.ref a)) :: σ) τ ((a, true, []) :: mu) fx rest Q) (hl : c.env.kindOf x = some .local)
    (hs : swapsWith (.List [] lp) (some (.Name x pos')) pos.line c.env = pure false) : c.X σ τ mu fx (.Assign [.Name x pos'] (.List [] lp) pos :: rest) Q := by
  rintro s ⟨g, m, I⟩
  refine cons_of (wpAny_Assign_Name (List_ (spliced_none (PySem.wpAny_newList ?_ (by decide)))) hs)
  have J := I.newMut (tk := s.toks) (pl := true) (vs := []) (ds := []) .nil (stays_push s.heap { cls := .type "list", data := .seq ([] : List Value).toArray }) ⟨_, _, Heap.get?_push_size _ rfl, rfl, fun _ => rfl, rfl⟩ (Nat.le_refl _)
  exact store_ O hl (J.push (.val (.ref s.heap.objs.size))).st fun s' S' => hr _ s' S'

/-- «x.append(e)» -/
theorem x_append {x : Str} {px apos pos epos : Pos} {e : Expr} {a : Addr} {ds : List D} {d : D} {pl : Sem Bool} (O : c.Ok K p loose mg mb k) (hx : σ.lookup x = some (.val (.ref a))) (hl : c.env.kindOf x = some .local) (hdb : (x == ("__debug__" : Str)) = false)
    (he : c.Ev σ ((a, true, ds) :: mu) fx e d) (hn : ds.length ≤ sizeLine) (hr : c.X σ τ ((a, true, ds ++ [d]) :: mu) fx rest Q)
    (hm : eval (.Call (.Attribute (.Name x px) "append" apos) [e] [] pos) c.env = (do
      let ov ← eval (.Name x px) c.env
      standAt apos.atName
      let (f, first) ← holding [ov] (getMethod ov "append" pl)
      callWith pos f first (backTo pos (starEach [e] c.env)) []))
    (hse : starEach [e] c.env = (false, eval e c.env) :: starEach [] c.env)
    (hi : interactive c.env = false) (hs : swapsWith (.Call (.Attribute (.Name x px) "append" apos) [e] [] pos) none epos.line c.env = pure false) :
    c.X σ τ ((a, true, ds) :: mu) fx (.Expr (.Call (.Attribute (.Name x px) "append" apos) [e] [] pos) epos :: rest) Q := by
  intro s S
  refine cons_of (wpAny_Expr_any ?_ hi hs)
  refine MethodCall_ (pl := pl) (wpAny_mono (ev_local (c := c) (mu := (a, true, ds) :: mu) O hx hl hdb τ s S) (fun v s₁ S₁ => ?_) fun _ _ f => f) hm
  obtain ⟨g, m, I⟩ := S₁
  obtain rfl := is_val (I.tmps _ (.head _))
  obtain ⟨⟨vs, ⟨o, n, ho, hc, hdn, hdt⟩, _⟩, _⟩ := I.muts _ (.head _)
  refine Calls.getMethod_list_append ho hc (hdn rfl) ?_
  refine PyProof.Rows.callWith_method1 (spliced_more (wpAny_mono (he τ s₁ I.pop.st) (fun v s₂ S₂ => spliced_none ?_) fun _ _ f => f) hse) hse rfl
  refine wpAny_mono (append_ S₂ hn) (fun v s₃ h₃ => ?_) fun _ _ f => f
  obtain ⟨rfl, S₃⟩ := h₃
  exact hr s₃ S₃

/-- «x[i] = e» -/
theorem x_setitem {x : Str} {px spos pos : Pos} {ei ev : Expr} {a : Addr} {ds : List D} {d : D} {i : Int} (O : c.Ok K p loose mg mb k) (hx : σ.lookup x = some (.val (.ref a))) (hl : c.env.kindOf x = some .local) (hdb : (x == ("__debug__" : Str)) = false)
    (hi : c.Ev σ ((a, false, ds) :: mu) fx ei (.int i)) (he : c.Ev σ ((a, false, ds) :: mu) fx ev d) (h0 : 0 ≤ i) (hfit : i < 2 ^ 63) (hn : i < ds.length) (hr : c.X σ τ ((a, false, ds.set i.toNat d) :: mu) fx rest Q)
    (hs : swapsWith ev (some (.Subscript (.Name x px) ei spos)) pos.line c.env = pure false) :
    c.X σ τ ((a, false, ds) :: mu) fx (.Assign [.Subscript (.Name x px) ei spos] ev pos :: rest) Q := by
  intro s S
  refine cons_of (wpAny_Assign_Subscript (wpAny_mono (he τ s S) (fun v s₁ S₁ => wpAny_mono (ev_local (c := c) (mu := (a, false, ds) :: mu) O hx hl hdb _ s₁ S₁) (fun o s₂ S₂ => wpAny_mono (hi _ s₂ S₂) (fun iv s₃ S₃ => ?_) fun _ _ f => f) fun _ _ f => f) fun _ _ f => f) hs)
  obtain ⟨g, m, I⟩ := S₃
  obtain ⟨u, rfl⟩ := is_int (I.tmps _ (.head _))
  obtain rfl := is_val (I.tmps _ (.tail _ (.head _)))
  obtain ⟨⟨vs, hls, ha⟩, _⟩ := I.muts _ (.head _)
  refine wpAny_setItem_list hls.isList h0 hfit (by simpa [ha.length] using hn) fun h' hl' hs' => ?_
  have hd : Is g v d := I.tmps _ (.tail _ (.tail _ (.head _)))
  exact hr _ (I.pop.pop.pop.setMut (tk := s₃.toks) (vs := vs.set i.toNat v) hs'.extBut (.of_list (by simpa using hl')) (ha.set i.toNat hd)).st

/-- a list changes no more: from here on the name stands for its datum -/
theorem x_freeze {x : Str} {a : Addr} {pl : Bool} {ds : List D} {st : List Stmt} (O : c.Ok K p loose mg mb k) (hx : σ.lookup x = some (.val (.ref a))) (hr : c.X ((x, .list ds) :: σ) τ mu fx st Q) : c.X σ τ ((a, pl, ds) :: mu) fx st Q := by
  rintro s ⟨g, m, I⟩
  obtain ⟨g', J, kg, hi⟩ := I.freeze O.mono
  refine hr s ⟨g', m, { J with vars := fun y d e => ?_ }⟩
  rw [List.lookup_cons] at e
  by_cases hy : y = x
  · subst hy
    simp only [beq_self_eq_true] at e
    obtain rfl := Option.some.inj e
    obtain ⟨v, hv, hiv⟩ := J.vars y _ hx
    obtain rfl := is_val hiv
    exact ⟨_, hv, hi⟩
  · have : (y == x) = false := beq_eq_false_iff_ne.mpr hy
    simp only [this] at e
    exact J.vars y d e

/-! ### the library's rules with a frame and a ledger, from a state of ours -/
theorem In.bridge {Ba : Heap → Prop} {g₀ : Heap} {s₀ : Shared} {L : Addr} {g : Heap} {m : Str → Option Value} (I : In Ba g₀ s₀ L σ τ mu fx g m s) :
    ∃ news, Fr s₀.heap L s.heap m ∧ News s₀.heap L s.heap news ∧ ∀ (h' : Heap) (tk : Nat), Fr s₀.heap L h' m → News s₀.heap L h' news → In Ba g₀ s₀ L σ τ mu fx g m { s with heap := h', toks := tk } := by
  refine ⟨(List.range s.heap.objs.size).filterMap fun a => if a = L then none else match s₀.heap.get? a with | some _ => none | none => (s.heap.get? a).map fun o => (a, o), ⟨I.ns, I.keep, I.Ls⟩, ?_, ?_⟩
  · intro q hq
    obtain ⟨a, _, e⟩ := List.mem_filterMap.mp hq
    by_cases hL : a = L
    · rw [if_pos hL] at e; cases e
    · rw [if_neg hL] at e
      cases h₀ : s₀.heap.get? a with
      | some o => rw [h₀] at e; cases e
      | none =>
        rw [h₀] at e
        obtain ⟨o, ho, rfl⟩ := Option.map_eq_some_iff.mp e
        exact ⟨ho, hL, h₀⟩
  · intro h' tk F' N'
    have keep : ∀ b o, b ≠ L → s.heap.get? b = some o → h'.get? b = some o := by
      intro b o hb e
      cases h₀ : s₀.heap.get? b with
      | some o' =>
        have e' := I.keep b o' h₀
        rw [e] at e'
        obtain rfl := Option.some.inj e'
        exact F'.keep b o h₀
      | none =>
        refine (N' (b, o) (List.mem_filterMap.mpr ⟨b, List.mem_range.mpr (Heap.lt_size e), ?_⟩)).1
        rw [if_neg hb, h₀, e]; rfl
    exact {
      same := by obtain ⟨h, t, e⟩ := I.same; exact ⟨h', tk, by rw [e]⟩
      keep := F'.keep
      gk := I.gk
      gh := fun b o e => keep b o (by rintro rfl; rw [I.Lg] at e; cases e) (I.gh b o e)
      new := I.new
      base := I.base
      ns := F'.ns
      Ls := I.Ls
      Lg := I.Lg
      vars := I.vars
      tmps := I.tmps
      muts := fun q hq => by
        obtain ⟨⟨vs, ⟨o, n, ho, r⟩, b⟩, e, f, i⟩ := I.muts q hq
        exact ⟨⟨vs, ⟨o, n, keep _ _ i ho, r⟩, b⟩, e, f, i⟩
      fixs := fun q hq => by
        obtain ⟨a, e, f, i⟩ := I.fixs q hq
        exact ⟨keep _ _ i a, e, f, i⟩
      apart := I.apart }

theorem In.addMut {Ba : Heap → Prop} {g₀ : Heap} {s₀ : Shared} {L : Addr} {g : Heap} {m : Str → Option Value} (I : In Ba g₀ s₀ L σ τ mu fx g m s) {a : Addr} {pl : Bool} {vs : List Value} {ds : List D} (ha : LK pl s.heap a vs.toArray) (hi : IsAll g vs ds)
    (hg : g.get? a = none) (hs : s₀.heap.objs.size ≤ a) (hL : a ≠ L) (hm : ∀ q ∈ mu, q.1 ≠ a) (hf : ∀ q ∈ fx, q.1 ≠ a) : In Ba g₀ s₀ L σ τ ((a, pl, ds) :: mu) fx g m s :=
  { I with
    muts := fun q hq => by
      cases hq with
      | head => exact ⟨⟨vs, ha, hi⟩, hg, hs, hL⟩
      | tail _ hq => exact I.muts q hq
    apart := by
      rw [List.map_cons, List.cons_append]
      refine List.nodup_cons.mpr ⟨fun h => ?_, I.apart⟩
      rcases List.mem_append.mp h with h | h
      · obtain ⟨q, hq, e⟩ := List.mem_map.mp h; exact hm q hq e
      · obtain ⟨q, hq, e⟩ := List.mem_map.mp h; exact hf q hq e }

theorem repeated (v : Value) : ∀ (n : Nat) (acc : Array Value), List.foldl (fun x1 x2 => x1 ++ x2) acc (List.replicate n #[v]) = acc ++ (List.replicate n v).toArray
  | 0, acc => by simp
  | n + 1, acc => by
    rw [List.replicate_succ, List.foldl_cons, repeated v n, List.replicate_succ, Array.append_assoc]
    congr 1
    apply Array.ext'
    simp
theorem isAll_replicate {g : Heap} {v : Value} {d : D} (h : Is g v d) : ∀ n : Nat, IsAll g (List.replicate n v) (List.replicate n d)
  | 0 => .nil
  | n + 1 => .cons h (isAll_replicate h n)

/-- «x = [n₁] * e₂» -/
theorem x_newMul {x : Str} {n₁ : Int} {q₁ : Nat} {cp : Pos} {e₂ : Expr} {n : Int} {lp bp pos pos' : Pos} (O : c.Ok K p loose mg mb k) (h₂ : ∀ fx, c.Ev σ mu fx e₂ (.int n)) (h0 : 0 ≤ n) (hn : n ≤ 2 ^ 20)
    (hr : ∀ a, c.X ((x, .val (.ref a)) :: σ) τ ((a, false, List.replicate n.toNat (.int n₁)) :: mu) fx rest Q) (hl : c.env.kindOf x = some .local)
    (hse : starEach [.Constant (.int n₁) q₁ cp] c.env = (false, eval (.Constant (.int n₁) q₁ cp) c.env) :: starEach [] c.env)
    (hs : swapsWith (.BinOp (.List [.Constant (.int n₁) q₁ cp] lp) .Mult e₂ bp) (some (.Name x pos')) pos.line c.env = pure false) :
    c.X σ τ mu fx (.Assign [.Name x pos'] (.BinOp (.List [.Constant (.int n₁) q₁ cp] lp) .Mult e₂ bp) pos :: rest) Q := by
  rintro s ⟨g, m, I⟩
  refine cons_of (wpAny_Assign_Name (wpAny_BinOp (List_ (spliced_more (wpAny_Constant_int (spliced_none ?_)) hse))) hs)
  refine PySem.wpAny_newList ?_ (by simp [sizeLine_eq])
  have I₁ := I.pushFix (o := { cls := .type "list", data := .seq [Value.int n₁ s.toks].toArray }) (tk := s.toks + 1) rfl
  refine wpAny_mono (h₂ _ τ _ I₁.st) (fun v₂ s₂ S₂ => ?_) fun _ _ f => f
  obtain ⟨g₂, m₂, I₂⟩ := S₂
  obtain ⟨u, rfl⟩ := is_int (I₂.tmps _ (.head _))
  obtain ⟨hget, _⟩ := I₂.fixs _ (.head _)
  obtain ⟨news, F, N, back⟩ := I₂.bridge
  refine PyProof.Rows.mul_list F N hget (by omega) (by omega) (by simp; omega) fun h' F' N' => ?_
  have I₃ := back h' s₂.toks F' fun q hq => N' q (.tail _ hq)
  have hnew := (N' _ (.head _)).1
  dsimp only at hnew
  rw [show [Value.int n₁ s.toks].toArray = #[Value.int n₁ s.toks] from rfl, show (#[Value.int n₁ s.toks] : Array Value).isEmpty = false from rfl, if_neg Bool.false_ne_true, repeated] at hnew
  have I₄ := (I₃.dropFix (tk := s₂.toks) (Heap.ExtBut.refl _ h')).pop
  have I₅ := I₄.addMut (a := s₂.heap.objs.size) (pl := false) (vs := List.replicate n.toNat (Value.int n₁ s.toks)) (ds := List.replicate n.toNat (.int n₁)) ⟨_, _, hnew, rfl, (fun e => nomatch e), by simp; rfl⟩ (isAll_replicate (.int _ _) _)
    (I₂.stable_lt (Nat.le_refl _)) (Nat.le_of_lt I₂.s0_lt) (Nat.ne_of_gt I₂.L_lt) (fun q hq => Nat.ne_of_lt (I₂.mut_lt hq)) fun q hq => Nat.ne_of_lt (I₂.fix_lt (.tail _ hq))
  exact store_ O hl (I₅.push (.val (.ref s₂.heap.objs.size))).st fun s' S' => hr _ s' S'

/-! ### unpacking -/
theorem assign_two_ {x y : Str} {px py tp : Pos} {n : Nat} {v : Value} {d d₁ d₂ : D} {Q : Unit → Shared → Prop} (O : c.Ok K p loose mg mb k) (hd : d = .tup [d₁, d₂] ∨ d = .list [d₁, d₂]) (hx : c.env.kindOf x = some .local) (hy : c.env.kindOf y = some .local) (S : c.S σ ((v, d) :: τ) mu fx s)
    (he : assignEach [.Name x px, .Name y py] c.env = [(false, assign (.Name x px) c.env), (false, assign (.Name y py) c.env)])
    (h : ∀ s', c.S ((y, d₂) :: (x, d₁) :: σ) τ mu fx s' → Q () s') : c.wp (assign (.Tuple [.Name x px, .Name y py] n tp) c.env v) Q s := by
  obtain ⟨g, m, I⟩ := S
  have fin : ∀ (v₁ v₂ : Value) (h' : Heap), Is g v₁ d₁ → Is g v₂ d₂ → s.heap.StaysIn h' →
      c.wp (assignInOrder ([((false : Bool), assign (.Name x px) c.env), (false, assign (.Name y py) c.env)].map (·.2)) [v₁, v₂]) Q { s with heap := h' } := by
    intro v₁ v₂ h' h₁ h₂ k'
    have J := ((I.pop.step (tk := s.toks) k').push h₂).push h₁
    refine assignInOrder_cons (PyProof.Rows.assign_Name (store_ O hx J.st fun s₁ S₁ => ?_))
    exact assignInOrder_cons (PyProof.Rows.assign_Name (store_ O hy S₁ fun s₂ S₂ => assignInOrder_nil (h s₂ S₂)))
  have two : ∀ {vs : List Value}, IsAll g vs [d₁, d₂] → ∃ v₁ v₂, vs = [v₁, v₂] ∧ Is g v₁ d₁ ∧ Is g v₂ d₂ := by
    intro vs ha
    cases ha with
    | cons a b => cases b with | cons b q => cases q; exact ⟨_, _, rfl, a, b⟩
  rw [arm_assign_Tuple]
  refine wpAny_bind (wpAny_standAt ?_)
  unfold unpack
  rw [he]
  rcases hd with rfl | rfl
  · obtain ⟨t, vs, rfl, ht, ha⟩ := is_tup (I.tmps _ (.head _))
    obtain ⟨v₁, v₂, rfl, h₁, h₂⟩ := two ha
    exact wpAny_bind (wpAny_holding (unpackItems_tuple (items := [v₁, v₂].toArray) O.handled (IsTup.keeps ht I.gh) fun h' hx' => fin v₁ v₂ h' h₁ h₂ fun b o e => hx' b o (Nat.ne_of_lt (Heap.lt_size e)) e))
  · obtain ⟨t, vs, rfl, ht, ha⟩ := is_list (I.tmps _ (.head _))
    obtain ⟨v₁, v₂, rfl, h₁, h₂⟩ := two ha
    exact wpAny_bind (wpAny_holding (kun_itemsOf (items := [v₁, v₂].toArray) O.handled (IsList.keeps ht I.gh) fun h' hx' => fin v₁ v₂ h' h₁ h₂ fun b o e => hx' b o (Nat.ne_of_lt (Heap.lt_size e)) e))

/-- «a, b = e» -/
theorem x_unpack {x y : Str} {px py tp pos : Pos} {n : Nat} {e : Expr} {d : D} {d₁ d₂ : D} (O : c.Ok K p loose mg mb k) (he : c.Ev σ mu fx e d) (hd : d = .tup [d₁, d₂] ∨ d = .list [d₁, d₂]) (hx : c.env.kindOf x = some .local) (hy : c.env.kindOf y = some .local)
    (hr : c.X ((y, d₂) :: (x, d₁) :: σ) τ mu fx rest Q)
    (hs : swapsWithSole [.Tuple [.Name x px, .Name y py] n tp] e pos.line c.env = pure false) (hw : swappedStores [.Tuple [.Name x px, .Name y py] n tp] e c.env = pure none)
    (ha : assignEach [.Name x px, .Name y py] c.env = [(false, assign (.Name x px) c.env), (false, assign (.Name y py) c.env)]) :
    c.X σ τ mu fx (.Assign [.Tuple [.Name x px, .Name y py] n tp] e pos :: rest) Q := by
  intro s S
  exact cons_of (PyProof.Rows.Assign_Tuple (wpAny_mono (he τ s S) (fun v s₁ S₁ => assign_two_ O hd hx hy S₁ ha fun s' S' => hr s' S') fun _ _ f => f) hs hw)
end
end Mine

end
/-! ## F8 -/
section
open PySem PySem.W PyProof.Rows PySem.Calls
namespace Mine

/-! ### a def is entered -/
/-- how a body must end: with the answer's datum -/
def Fc.Ends (c : Fc) (d : D) : Flow → Shared → Prop := fun fl s' => ∃ v σ' τ' mu' fx', fl = .ret v ∧ c.S σ' ((v, d) :: τ') mu' fx' s'

theorem does_enter {prog : Program} {w : World} {K : Frag} {p : Program} {loose : List Str} {mg mb : Str → Option Value} {k : Nat} {f : Addr} {name qual : Str} {params : Arguments} {body : List Stmt} {scope : Scope} {dV kV doc pm cdv ct oc : Value} {an od : Option Addr} {osl : Array (Option Value)}
    {ds : List D} {d : D} {σ₀ : Vars} {bindsOf : List Value → List (Str × Value)}
    (ho : K.lookup f = some ⟨oc, od, .func (fnOf name qual params body scope dV kV doc pm an cdv ct), osl⟩) (hcd : codeIn K cdv qual = true)
    (hbind : ∀ (s : Shared) (vs : List Value), K.In s.heap → vs.length = ds.length → BindsTo s (fnOf name qual params body scope dV kV doc pm an cdv ct) ⟨vs, []⟩ (bindsOf vs))
    (hloc : ∀ vs : List Value, vs.length = ds.length → ∀ y ∈ bindsOf vs, scope.names.lookup y.1 = some .local)
    (hσ : ∀ (g : Heap) (vs : List Value), K.In g → IsAll g vs ds → ∀ x d, σ₀.lookup x = some d → ∃ v, (bindsOf vs).reverse.lookup x = some v ∧ Is g v d)
    (hbody : ∀ (A : Around) (L : Addr) (g : Heap) (s : Shared), (Fc.mk prog w A (envOf qual scope L f cdv) (Base K p loose mg mb) g s).Ok K p loose mg mb k →
      (Fc.mk prog w A (envOf qual scope L f cdv) (Base K p loose mg mb) g s).X σ₀ [] [] [] body ((Fc.mk prog w A (envOf qual scope L f cdv) (Base K p loose mg mb) g s).Ends d))
    (hcell : ∀ x ∈ scope.names, x.2 ≠ .cell) (hco : scope.isCoroutine = false) (hgen : scope.isGenerator = false) (hk : scope.kind = .function) :
    Does prog w (Base K p loose mg mb) (k + 1) (.ref f) ds d := by
  intro A s g vs hh hd hu hB hg ha
  have Bs := hB.keeps hg
  refine wpAny_call ?_
  refine codeAny_call_def (fd := fnOf name qual params body scope dV kV doc pm an cdv ct) (body := body) (binds := bindsOf vs) (by show A.depth < 1000; omega) (Bs.X _ _ ho) rfl Bs.T.nolimit (codeRec_of Bs.X hcd) rfl
    (hbind s vs Bs.X ha.length) hcell (hloc vs ha.length) (fun h₀ hns hk₀ => ?_) hco hgen hk
  let c : Fc := Fc.mk prog w (A.deeper (envOf qual scope s.heap.objs.size f cdv)) (envOf qual scope s.heap.objs.size f cdv) (Base K p loose mg mb) g s
  have O : c.Ok K p loose mg mb k := ⟨rfl, hh, by show A.depth + 1 + k ≤ 400; omega, by show A.units + 3 + 10 * k ≤ 400; omega, hk, rfl, rfl⟩
  have S : c.S σ₀ [] [] [] { s with heap := h₀, toks := s.toks + (bindsOf vs).length } := by
    refine ⟨g, fun x => (bindsOf vs).reverse.lookup x, ?_⟩
    exact {
      same := ⟨_, _, rfl⟩
      keep := hk₀
      gk := fun _ _ e => e
      gh := fun b o e => hk₀ b o (hg b o e)
      new := fun b o e => .inl ⟨o, e⟩
      base := hB
      ns := hns
      Ls := Nat.le_refl _
      Lg := by
        cases e : g.get? s.heap.objs.size with
        | none => exact e
        | some o => exact absurd (Heap.lt_size (hg _ _ e)) (Nat.lt_irrefl _)
      vars := hσ g vs hB.X ha
      tmps := fun q hq => nomatch hq
      muts := fun q hq => nomatch hq
      fixs := fun q hq => nomatch hq
      apart := .nil }
  refine wpAny_mono (hbody _ _ g s O _ S) (fun fl s' h => ?_) fun _ _ f => f.elim
  obtain ⟨v, σ', τ', mu', fx', rfl, g', m', I⟩ := h
  exact ⟨g', ⟨I.same, I.keep, I.gk, I.gh, I.new⟩, I.tmps _ (.head _)⟩

section
variable {c : Fc} {K : Frag} {p : Program} {loose : List Str} {mg mb : Str → Option Value} {k : Nat}
variable {σ σ' : Vars} {τ : Tmps} {mu : Muts} {fx : Fixs} {s : Shared} {rest : List Stmt} {Q : Flow → Shared → Prop}

theorem x_ret {e : Expr} {d : D} {pos : Pos} (h : c.Ev σ mu fx e d) : c.X σ τ mu fx (.Return (some e) pos :: rest) (c.Ends d) :=
  x_return h fun v _ S => ⟨v, _, _, _, _, rfl, S⟩

theorem x_ret_in {e : Expr} {d d' : D} {pos : Pos} (hq : ∀ v s, c.Ends d (.ret v) s → Q (.ret v) s) (h : c.Ev σ mu fx e d') (hd : d' = d) : c.X σ τ mu fx (.Return (some e) pos :: rest) Q := by
  subst hd
  exact x_return h fun v _ S => hq _ _ ⟨v, _, _, _, _, rfl, S⟩
theorem ev_as {e : Expr} {d d' : D} (h : c.Ev σ mu fx e d') (hd : d' = d) : c.Ev σ mu fx e d := hd ▸ h
theorem tr_as {e : Expr} {b b' : Bool} (h : c.Tr σ mu fx e b') (hd : b' = b) : c.Tr σ mu fx e b := hd ▸ h
theorem x_ret_as {e : Expr} {d d' : D} {pos : Pos} (h : c.Ev σ mu fx e d') (hd : d' = d) : c.X σ τ mu fx (.Return (some e) pos :: rest) (c.Ends d) := x_ret (ev_as h hd)

/-! ### more operators -/
theorem ev_neg {e : Expr} {a : Int} {pos : Pos} (h : c.Ev σ mu fx e (.int a)) : c.Ev σ mu fx (.UnaryOp .USub e pos) (.int (-a)) := by
  intro τ s S
  refine PyProof.Rows.UnaryOp_ (wpAny_mono (h τ s S) (fun v s₁ S₁ => ?_) fun _ _ f => f)
  obtain ⟨g, m, I⟩ := S₁
  obtain ⟨t, rfl⟩ := is_int (I.tmps _ (.head _))
  exact PyProof.Rows.neg_int (I.pop.tok.push (.int _ _)).st

theorem two_strs {a b : Str} {v₁ v₂ : Value} {g : Heap} {m : Str → Option Value} (I : In c.Ba c.g₀ c.s₀ c.env.locals σ ((v₂, .str b) :: (v₁, .str a) :: τ) mu fx g m s) : ∃ t u, v₁ = .str a t ∧ v₂ = .str b u := by
  obtain ⟨u, rfl⟩ := is_str (I.tmps _ (.head _))
  obtain ⟨t, rfl⟩ := is_str (I.tmps _ (.tail _ (.head _)))
  exact ⟨t, u, rfl, rfl⟩
theorem op_eq_str {a b : List Nat} : c.Op2 σ mu fx (compareOp .Eq) (.str (T a)) (.str (T b)) (.bool (decide (a = b))) := by
  rintro τ s v₁ v₂ ⟨g, m, I⟩
  obtain ⟨t, u, rfl, rfl⟩ := two_strs I
  refine PySem.P.eq_str ?_
  have e : ((T a).cps.toList == (T b).cps.toList) = decide (a = b) := by
    rw [T_toList, T_toList, Bool.eq_iff_iff]; simp
  rw [e]
  exact (I.pop.pop.push (.bool _)).st
theorem op_ne_str {a b : List Nat} : c.Op2 σ mu fx (compareOp .NotEq) (.str (T a)) (.str (T b)) (.bool (decide (a ≠ b))) := by
  rintro τ s v₁ v₂ ⟨g, m, I⟩
  obtain ⟨t, u, rfl, rfl⟩ := two_strs I
  refine PySem.P.ne_str ?_
  have e : ((T a).cps.toList != (T b).cps.toList) = decide (a ≠ b) := by
    rw [T_toList, T_toList, Bool.eq_iff_iff]; simp
  rw [e]
  exact (I.pop.pop.push (.bool _)).st
theorem op_add_str {a b : List Nat} (hn : a.length + b.length ≤ sizeLine) : c.Op2 σ mu fx (binaryOp .Add) (.str (T a)) (.str (T b)) (.str (T (a ++ b))) := by
  rintro τ s v₁ v₂ ⟨g, m, I⟩
  obtain ⟨t, u, rfl, rfl⟩ := two_strs I
  refine PyProof.Rows.add_str (fun t' tk => ?_) (by rw [T_length, T_length]; exact hn)
  rw [T_append]
  exact (I.pop.pop.tok.push (.str _ _)).st
/-- one sign in a text -/
theorem op_in_str {a : Nat} {b : List Nat} : c.Op2 σ mu fx (compareOp .In) (.str (T [a])) (.str (T b)) (.bool (decide (a ∈ b))) := by
  rintro τ s v₁ v₂ ⟨g, m, I⟩
  obtain ⟨t, u, rfl, rfl⟩ := two_strs I
  refine PySem.P.in_str ?_
  have e := StrLaws.found_one (T b) a
  rw [T_toList] at e
  rw [show T [a] = ⟨#[a]⟩ from rfl, e]
  exact (I.pop.pop.push (.bool _)).st
/-- a text as a test -/
theorem tr_str {e : Expr} {x : List Nat} (h : c.Ev σ mu fx e (.str (T x))) (hn : x.length ≤ sizeLine) (he : isTrue e c.env (eval e c.env) = (do let v ← eval e c.env; standAt e.pos; holding [v] (truthy v))) : c.Tr σ mu fx e (decide (x ≠ [])) := by
  intro τ s S
  refine isTrue_plain (wpAny_mono (h τ s S) (fun v s₁ S₁ => ?_) fun _ _ f => f) he
  obtain ⟨g, m, I⟩ := S₁
  obtain ⟨t, rfl⟩ := is_str (I.tmps _ (.head _))
  refine PySem.P.truthy_str ?_ ⟨?_, I.pop.tok.st⟩
  · have := sizeLine_eq; rw [T_length]; omega
  · rw [T_length, Bool.eq_iff_iff]
    cases x with
    | nil => simp
    | cons a r => simp; omega
/-- two lists of ints are compared -/
theorem op_eq_ints {a b : List Int} (O : c.Ok K p loose mg mb k) : c.Op2 σ mu fx (compareOp .Eq) (.list (intsD a)) (.list (intsD b)) (.bool (decide (a = b))) := by
  rintro τ s v₁ v₂ ⟨g, m, I⟩
  obtain ⟨l, vs, rfl, hl, ha⟩ := is_list (I.tmps _ (.tail _ (.head _)))
  obtain ⟨l', vs', rfl, hl', ha'⟩ := is_list (I.tmps _ (.head _))
  refine eq_intsK (IsList.keeps hl I.gh) (intsAre_of ha) (IsList.keeps hl' I.gh) (intsAre_of ha') (by have := O.units; show c.A.units + 64 < 9900; omega) (I.pop.pop.push (.bool _)).st
/-- two lists are joined -/
theorem op_add_list {a b : List D} (O : c.Ok K p loose mg mb k) (hn : a.length + b.length ≤ sizeLine) : c.Op2 σ mu fx (binaryOp .Add) (.list a) (.list b) (.list (a ++ b)) := by
  rintro τ s v₁ v₂ ⟨g, m, I⟩
  obtain ⟨l, vs, rfl, hl, ha⟩ := is_list (I.tmps _ (.tail _ (.head _)))
  obtain ⟨l', vs', rfl, hl', ha'⟩ := is_list (I.tmps _ (.head _))
  obtain ⟨news, F, N, back⟩ := I.pop.pop.bridge
  refine PyProof.Rows.add_lists F N (IsList.keeps hl I.gh) (IsList.keeps hl' I.gh) (fun h' F' N' => ?_) (by rw [ha.length, ha'.length]; exact hn)
  have I₂ := back h' s.toks F' fun q hq => N' q (.tail _ hq)
  have hnew := (N' _ (.head _)).1
  have I₃ := I₂.addMut (a := s.heap.objs.size) (pl := true) (vs := vs ++ vs') (ds := a ++ b) ⟨_, _, hnew, rfl, fun _ => rfl, rfl⟩ (ha.append ha')
    (I.stable_lt (Nat.le_refl _)) (Nat.le_of_lt I.s0_lt) (Nat.ne_of_gt I.L_lt) (fun q hq => Nat.ne_of_lt (I.mut_lt hq)) fun q hq => Nat.ne_of_lt (I.fix_lt hq)
  obtain ⟨g', I₄, _, h₄⟩ := I₃.freeze O.mono
  exact (I₄.push h₄).st

/-! ### methods of texts -/
theorem strs_values {g : Heap} : ∀ {vs : List Value} {xs : List Str}, IsAll g vs (xs.map D.str) → ∃ l : List (Str × Tok), vs = strValues l ∧ l.map (·.1) = xs
  | _, [], .nil => ⟨[], rfl, rfl⟩
  | _, x :: xs, .cons a b => by
    obtain ⟨t, rfl⟩ := is_str a
    obtain ⟨l, rfl, rfl⟩ := strs_values b
    exact ⟨(x, t) :: l, rfl, rfl⟩

/-- «sep.join(list)» -/
theorem ev_join {o e : Expr} {apos pos : Pos} {pl : Sem Bool} {sep : Str} {xs : List Str} (ho : c.Ev σ mu fx o (.str sep)) (he : c.Ev σ mu fx e (.list (xs.map D.str))) (hok : JoinOk sep xs = true)
    (hm : eval (.Call (.Attribute o "join" apos) [e] [] pos) c.env = (do
      let ov ← eval o c.env
      standAt apos.atName
      let (f, first) ← holding [ov] (getMethod ov "join" pl)
      callWith pos f first (backTo pos (starEach [e] c.env)) []))
    (hse : starEach [e] c.env = (false, eval e c.env) :: starEach [] c.env) : c.Ev σ mu fx (.Call (.Attribute o "join" apos) [e] [] pos) (.str (Txt.join sep xs)) := by
  intro τ s S
  refine MethodCall_ (pl := pl) (wpAny_mono (ho τ s S) (fun v s₁ S₁ => ?_) fun _ _ f => f) hm
  obtain ⟨g, m, I⟩ := S₁
  obtain ⟨t, rfl⟩ := is_str (I.tmps _ (.head _))
  refine GM.join ?_
  refine PyProof.Rows.callWith_method1 (spliced_more (wpAny_mono (he τ s₁ I.pop.st) (fun v s₂ S₂ => spliced_none ?_) fun _ _ f => f) hse) hse rfl
  obtain ⟨g₂, m₂, I₂⟩ := S₂
  obtain ⟨l, vs, rfl, hl, ha⟩ := is_list (I₂.tmps _ (.head _))
  obtain ⟨ps, rfl, hps⟩ := strs_values ha
  exact SC.join (IsList.keeps hl I₂.gh) hps hok fun t' tk => (I₂.pop.tok.push (.str _ _)).st

/-- «x.splitlines()» -/
theorem ev_splitlines {o : Expr} {apos pos : Pos} {pl : Sem Bool} {x : Str} (O : c.Ok K p loose mg mb k) (ho : c.Ev σ mu fx o (.str x)) (hn : x.length ≤ sizeLine) (hn2 : (lineCuts x).length ≤ sizeLine)
    (hm : eval (.Call (.Attribute o "splitlines" apos) [] [] pos) c.env = (do
      let ov ← eval o c.env
      standAt apos.atName
      let (f, first) ← holding [ov] (getMethod ov "splitlines" pl)
      callWith pos f first (backTo pos (starEach [] c.env)) [])) : c.Ev σ mu fx (.Call (.Attribute o "splitlines" apos) [] [] pos) (.list ((linesOf x).map D.str)) := by
  intro τ s S
  refine MethodCall_ (pl := pl) (wpAny_mono (ho τ s S) (fun v s₁ S₁ => ?_) fun _ _ f => f) hm
  obtain ⟨g, m, I⟩ := S₁
  obtain ⟨t, rfl⟩ := is_str (I.tmps _ (.head _))
  refine GM.splitlines ?_
  refine PyProof.Rows.callWith_method0 ?_
  refine call_meets F.slot_str_splitlines (typeIs_str _ _ _) F.entry_str_splitlines (F.args_str_splitlines_1 _) (meets_str_splitlines x t hn hn2) ?_
  have strz : ∀ (g : Heap) (l : List Str) (n : Nat), IsAll g (strsFrom n l) (l.map D.str) := by
    intro g l
    induction l with
    | nil => intro n; exact .nil
    | cons y l ih => intro n; exact .cons (.str y n) (ih (n + 1))
  by_cases hc : (lineCuts x == [(0, x.length)]) = true
  · have hx : linesOf x = [x] := by
      have := eq_of_beq hc
      unfold linesOf
      rw [this]
      simp only [List.map_cons, List.map_nil]
      congr 1
      unfold Builtin.Str.strSub Str.length
      cases x; simp
    simp only [hc, if_true, listOfItself]
    rw [hx]
    show c.S σ _ mu fx _
    exact I.pop.newList O (vs := [Value.str x t]) (ds := [D.str x]) (.cons (.str x t) .nil) (n := 0) (tk := s₁.toks) (stays_push _ _) (Heap.get?_push_size _ rfl) (Nat.le_refl _)
  · simp only [hc, Bool.false_eq_true, if_false]
    show c.S σ _ mu fx _
    exact I.pop.newList O (strz g (linesOf x) s₁.toks) (n := 0) (stays_push _ _) (Heap.get?_push_size _ rfl) (Nat.le_refl _)
end
end Mine

end
/-! ## F9 -/
section
open PySem PySem.W PyProof.Rows PySem.Calls
namespace Mine

theorem seqIndex_nat {j n : Nat} (h : j < n) : seqIndex? (j : Int) n = some j := by
  unfold seqIndex?
  have h1 : ¬ ((j : Int) < 0) := by omega
  simp only [h1, if_false]
  rw [if_pos (by simp; omega)]
  simp
theorem seqIndex_int {i : Int} {n : Nat} (h0 : 0 ≤ i) (h : i < n) : seqIndex? i n = some i.toNat := by
  obtain ⟨j, rfl⟩ := Int.eq_ofNat_of_zero_le h0
  exact seqIndex_nat (by omega)
theorem ev_text {c : Fc} {σ : Vars} {mu : Muts} {fx : Fixs} {x : Str} {l : List Nat} {n : Nat} {pos : Pos} (h : x = T l) : c.Ev σ mu fx (.Constant (.str x) n pos) (.str (T l)) := h ▸ ev_str

section
variable {c : Fc} {K : Frag} {p : Program} {loose : List Str} {mg mb : Str → Option Value} {k : Nat}

/-- range(n) -/
theorem src_range1 {σ : Vars} {mu : Muts} {fx : Fixs} {f e : Expr} {n : Int} {pos : Pos} (hf : c.Ev σ mu fx f (.val (.type "range"))) (h₁ : c.Ev σ mu fx e (.int n)) (h0 : 0 ≤ n) (hn : n < 2 ^ 62)
    (hc : eval (.Call f [e] [] pos) c.env = (do callWith pos (← eval f c.env) [] (backTo pos (starEach [e] c.env)) (backToKw pos (keywordEach [] c.env))))
    (he : starEach [e] c.env = (false, eval e c.env) :: starEach [] c.env) : c.Src σ mu fx (.Call f [e] [] pos) ((List.range n.toNat).map fun j : Nat => D.int (j : Int)) := by
  have := src_range (c := c) (σ := σ) (mu := mu) (fx := fx) (e := .Call f [e] [] pos) (a := 0) (b := n) (fun τ s S => by
    refine Call_ (wpAny_mono (hf τ s S) (fun v s₁ S₁ => ?_) fun _ _ f => f) hc
    obtain ⟨g, m, I⟩ := S₁
    obtain rfl := is_val (I.tmps _ (.head _))
    refine PyProof.Rows.callWith_type1 (spliced_more (wpAny_mono (h₁ τ s₁ I.pop.st) (fun v s₂ S₂ => spliced_none ?_) fun _ _ f => f) he) he rfl
    obtain ⟨g₂, m₂, I₂⟩ := S₂
    obtain ⟨t, rfl⟩ := is_int (I₂.tmps _ (.head _))
    exact call_range_1 ⟨(I₂.pop.step (stays_push _ _)).st, _, _, _, _, rfl, IsRange.new ..⟩) (by omega) (by omega) (by omega) hn
  simpa using this
/-- range(a, n) -/
theorem src_range2 {σ : Vars} {mu : Muts} {fx : Fixs} {f e e₂ : Expr} {a n : Int} {pos : Pos} (hf : c.Ev σ mu fx f (.val (.type "range"))) (h₁ : c.Ev σ mu fx e (.int a)) (h₂ : c.Ev σ mu fx e₂ (.int n)) (ha0 : 0 ≤ a) (ha : a < 2 ^ 62) (h0 : 0 ≤ n) (hn : n < 2 ^ 62)
    (hc : eval (.Call f [e, e₂] [] pos) c.env = (do callWith pos (← eval f c.env) [] (backTo pos (starEach [e, e₂] c.env)) (backToKw pos (keywordEach [] c.env))))
    (he : starEach [e, e₂] c.env = (false, eval e c.env) :: starEach [e₂] c.env) (he₂ : starEach [e₂] c.env = (false, eval e₂ c.env) :: starEach [] c.env) (hp : (backTo pos (starEach [e₂] c.env)).any (·.1) = false) :
    c.Src σ mu fx (.Call f [e, e₂] [] pos) ((List.range (n - a).toNat).map fun j : Nat => D.int (a + (j : Int))) := by
  refine src_range (c := c) (σ := σ) (mu := mu) (fx := fx) (e := .Call f [e, e₂] [] pos) (a := a) (b := n) (fun τ s S => ?_) (by omega) ha (by omega) hn
  refine Call_ (wpAny_mono (hf τ s S) (fun v s₁ S₁ => ?_) fun _ _ f => f) hc
  obtain ⟨g, m, I⟩ := S₁
  obtain rfl := is_val (I.tmps _ (.head _))
  refine PyProof.Rows.callWith_type1 (spliced_more (wpAny_mono (h₁ τ s₁ I.pop.st) (fun v s₂ S₂ => spliced_more (wpAny_mono (h₂ _ s₂ S₂) (fun v₂ s₃ S₃ => spliced_none ?_) fun _ _ f => f) he₂) fun _ _ f => f) he) he hp
  obtain ⟨g₂, m₂, I₂⟩ := S₃
  obtain ⟨t, u, rfl, rfl⟩ := two_ints I₂
  exact call_range_2 ⟨(I₂.pop.pop.step (stays_push _ _)).st, _, _, _, _, rfl, IsRange.new ..⟩

theorem elt_name {scope : Scope} {x : Str} {px : Pos} {elt : Expr} {ds : List D} {f : Nat → D} (hl : ∀ C, (compEnvC scope [] C c.env).kindOf x = some .local)
    (h : ∀ C g s₁, (c.comp scope C g s₁).Ok K p loose mg mb k → ∀ i d, ds[i]? = some d → ∀ mu' fx', (c.comp scope C g s₁).Ev [(x, d)] mu' fx' elt (f i)) : c.Elt K p loose mg mb k scope (.Name x px) elt ds f := by
  intro C g s₁ O i d hd τ' mu' fx' v s S
  refine wpAny_assign_Name (store_ (c := c.comp scope C g s₁) O (hl C) S fun s' S' => ?_)
  exact wp_any (h C g s₁ O i d hd mu' fx' τ' s' S') fun y s'' S'' => S''.vars fun _ _ e => nomatch e
theorem elt_pair {scope : Scope} {x y : Str} {px py tp : Pos} {n : Nat} {elt : Expr} {ds : List D} {f : Nat → D} (hx : ∀ C, (compEnvC scope [] C c.env).kindOf x = some .local) (hy : ∀ C, (compEnvC scope [] C c.env).kindOf y = some .local)
    (he : ∀ env : Env, assignEach [.Name x px, .Name y py] env = [(false, assign (.Name x px) env), (false, assign (.Name y py) env)])
    (h : ∀ C g s₁, (c.comp scope C g s₁).Ok K p loose mg mb k → ∀ i d, ds[i]? = some d → ∃ d₁ d₂, d = .tup [d₁, d₂] ∧ ∀ mu' fx', (c.comp scope C g s₁).Ev [(y, d₂), (x, d₁)] mu' fx' elt (f i)) : c.Elt K p loose mg mb k scope (.Tuple [.Name x px, .Name y py] n tp) elt ds f := by
  intro C g s₁ O i d hd τ' mu' fx' v s S
  obtain ⟨d₁, d₂, rfl, hv⟩ := h C g s₁ O i d hd
  refine assign_two_ (c := c.comp scope C g s₁) O (.inl rfl) (hx C) (hy C) S (he _) fun s' S' => ?_
  exact wp_any (hv mu' fx' τ' s' S') fun y s'' S'' => S''.vars fun _ _ e => nomatch e
end
theorem range_map {α β : Type} (l : List α) (g : α → β) (f : Nat → β) (h : ∀ i a, l[i]? = some a → f i = g a) : (List.range l.length).map f = l.map g := by
  apply List.ext_getElem?
  intro i
  rw [List.getElem?_map, List.getElem?_map]
  by_cases hi : i < l.length
  · rw [List.getElem?_range hi, List.getElem?_eq_getElem hi]
    simp [h i l[i] (List.getElem?_eq_getElem hi)]
  · rw [List.getElem?_eq_none (by simpa using hi), List.getElem?_eq_none (by simpa using hi)]
    rfl
theorem weak_nil {σ : Vars} : ∀ x d, ([] : Vars).lookup x = some d → σ.lookup x = some d := fun _ _ e => nomatch e
theorem weak_cons {σ σ' : Vars} {x : Str} {d : D} (h : σ.lookup x = some d) (hw : ∀ x d, σ'.lookup x = some d → σ.lookup x = some d) : ∀ y e, ((x, d) :: σ').lookup y = some e → σ.lookup y = some e := by
  intro y e he
  rw [List.lookup_cons] at he
  cases hy : y == x with
  | true => rw [hy] at he; rw [eq_of_beq hy]; rw [h]; exact he
  | false => rw [hy] at he; exact hw y e he
theorem intsD_length (l : List Int) : (intsD l).length = l.length := by simp [intsD]
theorem intsD_get {l : List Int} {i : Nat} {d : D} (h : (intsD l)[i]? = some d) : ∃ n, l[i]? = some n ∧ d = .int n := by
  unfold intsD at h
  rw [List.getElem?_map] at h
  obtain ⟨n, hn, rfl⟩ := Option.map_eq_some_iff.mp h
  exact ⟨n, hn, rfl⟩

/-! ### texts joined -/
def joinL (sep : List Nat) : List (List Nat) → List Nat
  | [] => []
  | [x] => x
  | x :: y :: r => x ++ sep ++ joinL sep (y :: r)
theorem join_T (sep : List Nat) (xs : List (List Nat)) : Txt.join (T sep) (xs.map T) = T (joinL sep xs) := by
  show Builtin.Str.glued (T sep) (xs.map T) = _
  rw [StrLaws.glued_eq_join]
  induction xs with
  | nil => rfl
  | cons x r ih =>
    cases r with
    | nil => rfl
    | cons y r =>
      show T x ++ T sep ++ Str.join (T sep) ((y :: r).map T) = T (x ++ sep ++ joinL sep (y :: r))
      rw [ih, T_append, T_append]
theorem joinOk_T (sep : List Nat) (xs : List (List Nat)) (h : (xs.map (·.length)).sum + xs.length * sep.length ≤ sizeLine) : JoinOk (T sep) (xs.map T) = true := by
  unfold JoinOk
  have e : ((xs.map T).toArray.foldl (fun a p => a + p.length + (T sep).length) 0) = (xs.map (·.length)).sum + xs.length * sep.length := by
    rw [StrLaws.joinTotal, T_length, List.map_map, List.length_map]
    have q : xs.map ((fun x : Str => x.length) ∘ T) = xs.map (·.length) := List.map_congr_left fun a _ => T_length a
    rw [q]
  rw [e]
  unfold Builtin.Str.tooLong
  simpa using h

/-- names bound to data -/
inductive Bz (g : Heap) : List (Str × Value) → Vars → Prop
  | nil : Bz g [] []
  | cons {x : Str} {v : Value} {d : D} {bs : List (Str × Value)} {σ : Vars} : Is g v d → Bz g bs σ → Bz g ((x, v) :: bs) ((x, d) :: σ)
theorem Bz.lookup {g : Heap} : ∀ {bs : List (Str × Value)} {σ : Vars}, Bz g bs σ → ∀ x d, σ.lookup x = some d → ∃ v, bs.lookup x = some v ∧ Is g v d
  | _, _, .nil, x, d, h => by cases h
  | _, _, .cons (x := y) (v := v) (d := d') a b, x, d, h => by
    rw [List.lookup_cons] at h ⊢
    cases hy : x == y with
    | true => rw [hy] at h; obtain rfl := Option.some.inj h; exact ⟨v, rfl, a⟩
    | false => rw [hy] at h; exact b.lookup x d h

section
variable {prog : Program} {w : World} {K : Frag} {p : Program} {loose : List Str} {mg mb : Str → Option Value} {k : Nat} {f : Addr} {name qual : Str} {params : Arguments} {body : List Stmt} {scope : Scope} {dV kV doc pm cdv ct oc : Value} {an od : Option Addr} {osl : Array (Option Value)}

theorem does1 {x : Str} {d₁ d : D}
    (ho : K.lookup f = some ⟨oc, od, .func (fnOf name qual params body scope dV kV doc pm an cdv ct), osl⟩) (hcd : codeIn K cdv qual = true)
    (hbind : ∀ v, bindArgs (fnOf name qual params body scope dV kV doc pm an cdv ct) ⟨[v], []⟩ = pure [(x, v)]) (hloc : scope.names.lookup x = some .local)
    (hcell : ∀ x ∈ scope.names, x.2 ≠ .cell) (hco : scope.isCoroutine = false) (hgen : scope.isGenerator = false) (hk : scope.kind = .function)
    (hbody : ∀ (A : Around) (L : Addr) (g : Heap) (s : Shared), (Fc.mk prog w A (envOf qual scope L f cdv) (Base K p loose mg mb) g s).Ok K p loose mg mb k →
      (Fc.mk prog w A (envOf qual scope L f cdv) (Base K p loose mg mb) g s).X [(x, d₁)] [] [] [] body ((Fc.mk prog w A (envOf qual scope L f cdv) (Base K p loose mg mb) g s).Ends d)) :
    Does prog w (Base K p loose mg mb) (k + 1) (.ref f) [d₁] d := by
  refine does_enter (bindsOf := fun vs => [x].zip vs) (σ₀ := [(x, d₁)]) ho hcd ?_ ?_ ?_ hbody hcell hco hgen hk
  · intro s vs _ hl
    obtain ⟨v, rfl⟩ := List.length_eq_one_iff.mp hl
    exact BindsTo.of_eq (hbind v)
  · intro vs hl y hy
    obtain ⟨v, rfl⟩ := List.length_eq_one_iff.mp hl
    rw [List.mem_singleton.mp hy]; exact hloc
  · intro g vs _ ha
    cases ha with
    | cons a b => cases b; exact Bz.lookup (.cons a .nil)

theorem does2 {x y : Str} {d₁ d₂ d : D}
    (ho : K.lookup f = some ⟨oc, od, .func (fnOf name qual params body scope dV kV doc pm an cdv ct), osl⟩) (hcd : codeIn K cdv qual = true)
    (hbind : ∀ v u, bindArgs (fnOf name qual params body scope dV kV doc pm an cdv ct) ⟨[v, u], []⟩ = pure [(x, v), (y, u)]) (hloc : scope.names.lookup x = some .local) (hloc₂ : scope.names.lookup y = some .local)
    (hcell : ∀ x ∈ scope.names, x.2 ≠ .cell) (hco : scope.isCoroutine = false) (hgen : scope.isGenerator = false) (hk : scope.kind = .function)
    (hbody : ∀ (A : Around) (L : Addr) (g : Heap) (s : Shared), (Fc.mk prog w A (envOf qual scope L f cdv) (Base K p loose mg mb) g s).Ok K p loose mg mb k →
      (Fc.mk prog w A (envOf qual scope L f cdv) (Base K p loose mg mb) g s).X [(y, d₂), (x, d₁)] [] [] [] body ((Fc.mk prog w A (envOf qual scope L f cdv) (Base K p loose mg mb) g s).Ends d)) :
    Does prog w (Base K p loose mg mb) (k + 1) (.ref f) [d₁, d₂] d := by
  have two : ∀ {vs : List Value}, vs.length = 2 → ∃ v u, vs = [v, u] := by
    intro vs h
    match vs, h with
    | [v, u], _ => exact ⟨v, u, rfl⟩
  refine does_enter (bindsOf := fun vs => [x, y].zip vs) (σ₀ := [(y, d₂), (x, d₁)]) ho hcd ?_ ?_ ?_ hbody hcell hco hgen hk
  · intro s vs _ hl
    obtain ⟨v, u, rfl⟩ := two hl
    exact BindsTo.of_eq (hbind v u)
  · intro vs hl z hz
    obtain ⟨v, u, rfl⟩ := two hl
    rcases List.mem_cons.mp hz with rfl | hz
    · exact hloc
    · rw [List.mem_singleton.mp hz]; exact hloc₂
  · intro g vs _ ha
    cases ha with
    | cons a b => cases b with | cons b q => cases q; exact Bz.lookup (.cons b (.cons a .nil))

theorem does3 {x y z : Str} {d₁ d₂ d₃ d : D}
    (ho : K.lookup f = some ⟨oc, od, .func (fnOf name qual params body scope dV kV doc pm an cdv ct), osl⟩) (hcd : codeIn K cdv qual = true)
    (hbind : ∀ v u t, bindArgs (fnOf name qual params body scope dV kV doc pm an cdv ct) ⟨[v, u, t], []⟩ = pure [(x, v), (y, u), (z, t)]) (hloc : scope.names.lookup x = some .local) (hloc₂ : scope.names.lookup y = some .local) (hloc₃ : scope.names.lookup z = some .local)
    (hcell : ∀ x ∈ scope.names, x.2 ≠ .cell) (hco : scope.isCoroutine = false) (hgen : scope.isGenerator = false) (hk : scope.kind = .function)
    (hbody : ∀ (A : Around) (L : Addr) (g : Heap) (s : Shared), (Fc.mk prog w A (envOf qual scope L f cdv) (Base K p loose mg mb) g s).Ok K p loose mg mb k →
      (Fc.mk prog w A (envOf qual scope L f cdv) (Base K p loose mg mb) g s).X [(z, d₃), (y, d₂), (x, d₁)] [] [] [] body ((Fc.mk prog w A (envOf qual scope L f cdv) (Base K p loose mg mb) g s).Ends d)) :
    Does prog w (Base K p loose mg mb) (k + 1) (.ref f) [d₁, d₂, d₃] d := by
  have three : ∀ {vs : List Value}, vs.length = 3 → ∃ v u t, vs = [v, u, t] := by
    intro vs h
    match vs, h with
    | [v, u, t], _ => exact ⟨v, u, t, rfl⟩
  refine does_enter (bindsOf := fun vs => [x, y, z].zip vs) (σ₀ := [(z, d₃), (y, d₂), (x, d₁)]) ho hcd ?_ ?_ ?_ hbody hcell hco hgen hk
  · intro s vs _ hl
    obtain ⟨v, u, t, rfl⟩ := three hl
    exact BindsTo.of_eq (hbind v u t)
  · intro vs hl q hq
    obtain ⟨v, u, t, rfl⟩ := three hl
    rcases List.mem_cons.mp hq with rfl | hq
    · exact hloc
    · rcases List.mem_cons.mp hq with rfl | hq
      · exact hloc₂
      · rw [List.mem_singleton.mp hq]; exact hloc₃
  · intro g vs _ ha
    cases ha with
    | cons a b => cases b with | cons b q => cases q with | cons q r => cases r; exact Bz.lookup (.cons q (.cons b (.cons a .nil)))
end
end Mine

end
/-! ## W1 -/
section
open PySem PySem.W PyProof.Rows PySem.Calls
namespace Mine

theorem slot_mdget : Slot "method_descriptor" "__get__" "method_descriptor.__get__" :=
  .of (owner := "method_descriptor") (n := "__get__") (by rw [typeLookup_type, builtinLookup_eq_fast]; kernel_rfl) (by decide +kernel) (by decide +kernel) (by decide +kernel)
    (by first | exact .inl (by decide +kernel) | exact .inr (by decide +kernel)) (by rw [isSubtype_type]; kernel_rfl)
theorem entry_mdget : entryFor table "method_descriptor.__get__" = some Builtin.«method_descriptor.__get__» := entryFor_of_tree (by kernel_rfl)
theorem args_mdget (a b c : Value) : argsOk "method_descriptor.__get__" ⟨[a, b, c], []⟩ := by unfold argsOk; kernel_rfl
theorem mdget_set : typeLookup (.type "method_descriptor") "__set__" = pure none := am_miss_of_fast (by kernel_rfl)
theorem mdget_delete : typeLookup (.type "method_descriptor") "__delete__" = pure none := am_miss_of_fast (by kernel_rfl)
theorem list_sub_list : isSubtype (.type "list") (.type "list") = pure true := by rw [isSubtype_type]; kernel_rfl

def boundAppend (a : Addr) : Obj := { cls := .type "builtin_function_or_method", data := .fields #[.builtin "list.append", .ref a] }

theorem told_append : Manifest.toldItsClass.contains "list.append" = false := by decide +kernel

theorem run_mdget {M : Model} {A : Around} {E : Value → Shared → Prop} {s : Shared} {a : Addr} {P : Fin → Shared → Prop} (hT : s.TypeIs (.ref a) "list") (h : P (.done (.ret (.ref s.heap.objs.size))) { s with heap := s.heap.push (boundAppend a) }) :
    wpAny M A (Builtin.«method_descriptor.__get__» ⟨[.builtin "list.append", .ref a, .type "list"], []⟩) P E s := by
  unfold Builtin.«method_descriptor.__get__»
  refine wpAny_bind (wpAny_of_eq (a := (.builtin "list.append", some (.ref a), some (.type "list"))) (by first | rfl | kernel_rfl) ?_)
  dsimp only
  rw [told_append, if_neg Bool.false_ne_true]
  refine wpAny_bind (wpAny_bind (wpAny_of_eq (a := (Str.ofString "append", Value.type "list")) (by first | rfl | kernel_rfl) ?_))
  refine wpAny_bind (wpAny_isInstance hT list_sub_list ?_)
  refine wpAny_pure ?_
  exact wpAny_bind (wpAny_newObj_type (wpAny_pure h))

set_option maxHeartbeats 4000000 in
theorem getAttr_append {prog : Program} {w : World} {A : Around} {E : Value → Shared → Prop} {s : Shared} {a : Addr} {o : Obj} {xs : Array Value} {k : Nat} {Q : Value → Shared → Prop}
    (hx : s.heap.get? a = some o) (hc : o.cls = .type "list") (hdat : o.data = .seq xs k) (hd : o.dict = none)
    (h : ∀ tk, Q (.ref s.heap.objs.size) { s with heap := s.heap.push (boundAppend a), toks := tk }) :
    wpAny (model prog w) A (getAttr (.ref a) "append" true) Q E s := by
  obtain ⟨c, dct, dat, sl⟩ := o
  simp only at hc hdat hd
  subst hc hdat hd
  obtain ⟨hp, g, d, tk, os⟩ := s
  have hT : ∀ tk', (⟨hp, g, d, tk', os⟩ : Shared).TypeIs (.ref a) "list" := fun _ => ⟨_, hx, rfl⟩
  have f0 := list_sub_list
  have f1 := mdget_set
  have f2 := mdget_delete
  have f3 := F.slot_list_getattribute.lookup
  have f4 := F.slot_list_getattribute.bind (.ref a)
  have f5 := am_list_getattr_none
  have f6 := F.slot_list_append.lookup
  have f7 := F.type_list_append
  have f8 := slot_mdget.lookup
  have hM : ∀ u, Meets (Builtin.«object.__getattribute__» ⟨[.ref a, .str "append" u], []⟩) (fun A R s => s.heap.get? a = some { cls := .type "list", dict := none, data := .seq xs k, slots := sl } ∧ R (.ok (.ret (.ref s.heap.objs.size))) { s with heap := s.heap.push (boundAppend a) }) := fun u =>
    Meets.of_wp fun prog w A R s hs => by
      obtain ⟨hp, g, d, tk, os⟩ := s
      obtain ⟨hx, hs⟩ := hs
      have hT : (⟨hp, g, d, tk, os⟩ : Shared).TypeIs (.ref a) "list" := ⟨_, hx, rfl⟩
      have hT' : (⟨hp, g, d, tk, os⟩ : Shared).TypeIs (.builtin "list.append") "method_descriptor" := f7
      unfold Builtin.«object.__getattribute__»
      repeat (any_goals (first | assumption | ((with_reducible show wpAny _ _ (call (Value.builtin "method_descriptor.__get__") _ _) _ _ _); refine wpAny_call_entry slot_mdget hT' entry_mdget (run_mdget hT ⟨_, rfl, ?_⟩) (args_mdget _ _ _)) | wp_step))
      exact ⟨_, rfl, hs⟩
  unfold getAttr getAttrBy
  repeat (any_goals (first | assumption | exact hT _ | ((with_reducible show wpAny _ _ (call (Value.builtin "list.__getattribute__") _ _) _ _ _); refine call_meets F.slot_list_getattribute (hT _) am_entry_list_getattribute (F.args_list_getattribute_2 _ _) (hM _) ⟨hx, ?_⟩) | wp_step))
  exact wpAny_pure (h _)

theorem list_sub_module : isSubtype (.type "list") (.type "module") = pure false := by rw [isSubtype_type]; kernel_rfl
theorem quiet_append {as : Args} : (Code.builtin "list.append" as).quiet = true := Code.quiet_builtin _ (by decide +kernel)
set_option maxHeartbeats 4000000 in
theorem check_append {M : Model} {A : Around} {E : Value → Shared → Prop} {s : Shared} {a : Addr} {xs : Array Value} {x : Value} {Q : Unit → Shared → Prop} (hl : s.heap.IsList a xs) (h : Q () s) :
    wpAny M A (checkBoundCall "list.append" ⟨[.ref a, x], []⟩) Q E s := by
  obtain ⟨hp, g, d, tk, os⟩ := s
  have hT : (⟨hp, g, d, tk, os⟩ : Shared).TypeIs (.ref a) "list" := Heap.IsList.typeIs hl
  obtain ⟨o, ho, hc, n, hd⟩ := hl
  have f1 := list_sub_module
  unfold checkBoundCall
  repeat (any_goals (first | assumption | wp_step))

theorem callWith_fields {M : Model} {A : Around} {E : Value → Shared → Prop} {s : Shared} {a : Addr} {pos : Pos} {u : Addr} {first : List Value} {args : List (Bool × Sem Value)} {Q : Value → Shared → Prop} (hplain : args.any (·.1) = false)
    (h : wpAny M A (evalArgs (.ref u) true args []) (fun x s₁ => s₁.heap.get? u = some (boundAppend a) ∧ wpAny M A (call (.ref u) (first ++ x.pos) x.kw) Q E s₁) E s) : wpAny M A (callWith pos (.ref u) first args []) Q E s := by
  unfold callWith
  refine wpAny_bind (wpAny_holding (wpAny_mono h (fun x s₁ h₁ => wpAny_bind (wpAny_standAt ?_)) fun _ _ x => x))
  obtain ⟨ho, hcall⟩ := h₁
  simp only [hplain, List.any_nil, Bool.or_false]
  refine wpAny_bind (m := keeperOf (.ref u)) ?_
  unfold keeperOf
  refine wpAny_bind (wpAny_load ho ?_)
  simp only [boundAppend, show (Value.type "builtin_function_or_method" != Value.type "method") = true by decide, show (Value.type "builtin_function_or_method" == Value.type "builtin_function_or_method" || Value.type "builtin_function_or_method" == Value.type "method-wrapper") = true by decide, if_true]
  refine wpAny_pure ?_
  exact wpAny_bind (wpAny_mono hcall (fun r s₂ hr => wpAny_bind (wpAny_holding (wpAny_point (wpAny_pure hr)))) fun _ _ x => x)
theorem callWith_bound {M : Model} {A : Around} {E : Value → Shared → Prop} {s : Shared} {a : Addr} {pos : Pos} {u : Addr} {first : List Value} {env : Env} {e : Expr} {rest : List Expr} {Q : Value → Shared → Prop}
    (h : wpAny M A (spliced (backTo pos (starEach (e :: rest) env))) (fun vs s₁ => s₁.heap.get? u = some (boundAppend a) ∧ wpAny M A (call (.ref u) (first ++ vs)) Q E s₁) E s)
    (he : starEach (e :: rest) env = (false, eval e env) :: starEach rest env) (hplain : (backTo pos (starEach rest env)).any (·.1) = false) :
    wpAny M A (callWith pos (.ref u) first (backTo pos (starEach (e :: rest) env)) []) Q E s := by
  rw [he] at h ⊢
  refine callWith_fields (a := a) (by show (false || (backTo pos (starEach rest env)).any (·.1)) = false; rw [hplain]; rfl) ?_
  exact evalArgs_plain h

theorem call_bound {prog : Program} {w : World} {A : Around} {E : Value → Shared → Prop} {s : Shared} {u a : Addr} {its : Array Value} {x : Value} {Q : Value → Shared → Prop} (hu : s.heap.get? u = some (boundAppend a))
    (hl : PlainL s.heap a its) (hQ : ∀ h', PlainL h' a (its.push x) → Heap.SameBut a s.heap h' → Q .none { s with heap := h' }) (hsz : its.size ≤ sizeLine) :
    wpAny (model prog w) A (call (.ref u) [x]) Q E s := by
  refine wpAny_call (codeAny_of_tree ?_)
  show wpAny _ A.in1 (callAny (.ref u) ⟨[x], []⟩) _ _ s
  simp only [callAny]
  refine wpAny_bind (wpAny_load hu ?_)
  simp only [boundAppend, show (Value.type "builtin_function_or_method" == Value.type "method" || Value.type "builtin_function_or_method" == Value.type "builtin_function_or_method" || Value.type "builtin_function_or_method" == Value.type "method-wrapper") = true by decide, if_true]
  refine KFB.if_so (by decide) ?_
  refine wpAny_bind (check_append hl.isList ?_)
  refine wpAny_bind (wpAny_pure (wpAny_pure ?_))
  refine ⟨quiet_append, codeAny_builtin F.entry_list_append ?_⟩
  obtain ⟨o, n, ho, hc, hdn, hd⟩ := id hl
  obtain ⟨n', hd'⟩ := Obj.data_mapSeq hd (·.push x)
  show wpAny _ _ (updateSeq a (·.push x) >>= fun _ => ret .none) _ _ s
  refine wpAny_bind ?_
  refine wpAny_updateSeq ho hd (wpAny_pure (hQ _ ?_ (Heap.SameBut.update ..)))
  refine ⟨_, n', Heap.get?_update_self _ ho (Obj.isFreed_of_seq hd'), (Obj.cls_mapSeq ..).trans hc, ?_, hd'⟩
  obtain ⟨c, d, dt, sl⟩ := o
  subst hd
  exact hdn
end Mine

end
/-! ## W2 -/
section
open PySem PySem.W PyProof.Rows PySem.Calls
namespace Mine

section
variable {prog : Program} {w : World} {A : Around} {E : Value → Shared → Prop} {s : Shared}
theorem lookup_ {l : Addr} {items : Array Value} {c : Nat} {y : Str} {u : Tok} {Q : Builtin.Str.Mapped → Shared → Prop} (hl : s.heap.IsList l items) (hc : items[c]? = some (.str y u)) (hf : (c : Int) < 2 ^ 63) (h : ∀ k, Q (.text y) { s with toks := k }) :
    wpAny (model prog w) A (Builtin.Str.tableLookup (.ref l) c) Q E s := by
  unfold Builtin.Str.tableLookup
  refine wpAny_bind (wpAny_attempt (wpAny_bind (wpAny_mkInt (wpAny_getItem_list (items := items) (x := .str y u) hl (by omega) hf (by simpa using hc) ?_))))
  refine wpAny_bind (m := asInt? _) (wpAny_of_eq (a := none) rfl ?_)
  refine wpAny_bind (m := asStr? _) (wpAny_of_eq (a := some y) rfl ?_)
  exact wpAny_pure (h _)
end

theorem meets_translate {x : List Nat} {t : Tok} {l : Addr} {items : Array Value} {f : Nat → List Nat} (h0 : x ≠ []) (h20 : ∀ c ∈ x, c < 2 ^ 20) (hn : 3 * x.length ≤ sizeLine) (hlen : ∀ c ∈ x, (f c).length ≤ 3) (hc : ∀ c ∈ x, ∃ u, items[c]? = some (.str (T (f c)) u)) :
    Meets (Builtin.«str.translate» ⟨[.str (T x) t, .ref l], []⟩) (fun _ R s => s.heap.IsList l items ∧ ∀ t' k, R (.ok (.ret (.str (T (x.flatMap f)) t'))) { s with toks := k }) := by
  refine Meets.of_wp fun prog w A R s hs => ?_
  unfold Builtin.«str.translate»
  refine wpAny_bind (wpAny_of_eq (a := (.str (T x) t, T x, .ref l)) (by rfl) ?_)
  dsimp only
  rw [if_neg (by rw [T_length]; cases x with | nil => exact absurd rfl h0 | cons _ _ => simp)]
  have short : ∀ l : List Nat, (∀ c ∈ l, c ∈ x) → (l.flatMap f).length ≤ 3 * l.length := by
    intro l
    induction l with
    | nil => intro _; simp
    | cons c l ih =>
      intro h
      have h1 := hlen c (h c (.head _))
      have h2 := ih fun d hd => h d (.tail _ hd)
      simp only [List.flatMap_cons, List.length_append, List.length_cons]
      omega
  refine wpAny_bind (wpAny_forIn_array' _ (fun rest b s' => ∃ done tk, done ++ rest = x ∧ b.1.reverse.flatMap (fun y : Str => y.cps.toList) = done.flatMap f ∧ b.2.1 = (done.flatMap f).length ∧
    (∀ c a, b.2.2.2.1.lookup c = some a → ∃ d, a = some d ∧ f c = [d]) ∧ b.2.2.2.2 = false ∧ s' = { s with toks := tk }) _ ?_ ?_ _ _ ?_)
  · rintro c rest ⟨ps, tot, fast, known, ad⟩ s' ⟨done, tk, hx, hp, ht, hk, had, rfl⟩
    dsimp only at hp ht hk had ⊢
    subst had
    have hmem : c ∈ x := by rw [← hx]; simp
    obtain ⟨u, hcu⟩ := hc c hmem
    have hshort := short done (fun d hd => by rw [← hx]; simp [hd])
    have hl3 := hlen c hmem
    have hlx : x.length = done.length + rest.length + 1 := by rw [← hx]; simp; omega
    have hbound : (done.flatMap f).length ≤ sizeLine := by omega
    have hc63 : (c : Int) < 2 ^ 63 := by have := h20 c hmem; omega
    have stepText : ∀ tk', ∃ done' tk'', done' ++ rest = x ∧ (T (f c) :: ps).reverse.flatMap (fun y : Str => y.cps.toList) = done'.flatMap f ∧ tot + (T (f c)).length = (done'.flatMap f).length ∧
        (∀ c a, known.lookup c = some a → ∃ d, a = some d ∧ f c = [d]) ∧ ({ s with toks := tk' } : Shared) = { s with toks := tk'' } := by
      intro tk'
      refine ⟨done ++ [c], tk', by simp [hx], ?_, ?_, hk, rfl⟩
      · rw [List.reverse_cons, List.flatMap_append, hp, List.flatMap_append]; simp [T_toList]
      · rw [T_length, ht, List.flatMap_append, List.length_append]; simp
    have hno : ¬ Builtin.Str.tooLong tot = true := by unfold Builtin.Str.tooLong; rw [ht, decide_eq_true_eq]; omega
    rw [if_neg hno]
    cases fast with
    | true =>
      rw [if_pos rfl]
      cases hkn : known.lookup c with
      | some a =>
        dsimp only
        obtain ⟨d, rfl, hfd⟩ := hk c a hkn
        refine wpAny_bind (wpAny_pure ?_)
        dsimp only
        refine wpAny_pure ?_
        dsimp only
        refine ⟨done ++ [c], tk, by simp [hx], ?_, ?_, hk, rfl, rfl⟩
        · rw [List.reverse_cons, List.flatMap_append, hp, List.flatMap_append]; simp [hfd]
        · rw [ht, List.flatMap_append, List.length_append]; simp [hfd]
      | none =>
        dsimp only
        refine wpAny_bind (lookup_ hs.1 hcu hc63 fun tk' => ?_)
        dsimp only
        by_cases h1 : ((T (f c)).length == 1 && (T (f c)).cps.all fun x => decide (x < 128)) = true
        · rw [if_pos h1]
          dsimp only
          have hl1 : (f c).length = 1 := by
            rw [Bool.and_eq_true] at h1
            have := h1.1
            rw [T_length] at this
            exact eq_of_beq this
          obtain ⟨d, hfd⟩ := List.length_eq_one_iff.mp hl1
          have hg : (T (f c)).cps[0]? = some d := by rw [hfd]; rfl
          rw [hg]
          refine wpAny_bind (wpAny_pure ?_)
          dsimp only
          refine wpAny_pure ?_
          dsimp only
          refine ⟨done ++ [c], tk', by simp [hx], ?_, ?_, ?_, rfl, rfl⟩
          · rw [List.reverse_cons, List.flatMap_append, hp, List.flatMap_append]; simp [hfd]
          · rw [ht, List.flatMap_append, List.length_append]; simp [hfd]
          · intro c' a' h'
            rw [List.lookup_cons] at h'
            by_cases hcc : c' == c
            · rw [hcc] at h'
              cases h'
              rw [eq_of_beq hcc]
              exact ⟨d, rfl, hfd⟩
            · rw [Bool.not_eq_true _ |>.mp hcc] at h'
              exact hk c' a' h'
        · rw [if_neg h1]
          dsimp only
          refine wpAny_bind (wpAny_pure ?_)
          dsimp only
          refine wpAny_bind (wpAny_rule ?_)
          rw [if_neg Bool.false_ne_true]
          refine wpAny_bind (lookup_ (s := { s with toks := tk' }) hs.1 hcu hc63 fun tk'' => ?_)
          dsimp only
          refine wpAny_pure ?_
          dsimp only
          obtain ⟨done', tk3, a1, a2, a3, a4, a5⟩ := stepText tk''
          exact ⟨done', tk3, a1, a2, a3, a4, rfl, a5⟩
    | false =>
      rw [if_neg Bool.false_ne_true, if_neg Bool.false_ne_true]
      refine wpAny_bind (lookup_ (s := { s with toks := tk }) hs.1 hcu hc63 fun tk'' => ?_)
      dsimp only
      refine wpAny_pure ?_
      dsimp only
      obtain ⟨done', tk3, a1, a2, a3, a4, a5⟩ := stepText tk''
      exact ⟨done', tk3, a1, a2, a3, a4, rfl, a5⟩
  · rintro ⟨ps, tot, fast, known, ad⟩ s' ⟨done, tk, hx, hp, ht, hk, had, rfl⟩
    dsimp only at hp ht hk had ⊢
    rw [List.append_nil] at hx
    subst hx
    have hshort := short done (fun d hd => hd)
    have hno : ¬ Builtin.Str.tooLong tot = true := by unfold Builtin.Str.tooLong; rw [ht, decide_eq_true_eq]; omega
    rw [if_neg hno]
    have e : (⟨ps.reverse.foldl (fun acc p => acc ++ p.cps) #[]⟩ : Str) = T (done.flatMap f) := by
      have gen : ∀ (l : List Str) (acc : Array Nat), (l.foldl (fun acc p => acc ++ p.cps) acc).toList = acc.toList ++ l.flatMap (fun y : Str => y.cps.toList) := by
        intro l
        induction l with
        | nil => intro acc; simp
        | cons y l ih => intro acc; rw [List.foldl_cons, ih]; simp
      refine Str.ext' ?_
      show _ = (done.flatMap f).toArray
      rw [← hp]
      have := gen ps.reverse #[]
      apply Array.toList_inj.mp
      simpa using this
    rw [e]
    exact wpAny_bind (wpAny_mkStr (hx := by rw [T_length]; omega) (wpAny_pure ⟨_, rfl, hs.2 _ _⟩))
  · exact ⟨[], s.toks, by simp [T_toList], rfl, rfl, (fun c a h => by simp at h), rfl, rfl⟩

section
variable {c : Fc} {K : Frag} {p : Program} {loose : List Str} {mg mb : Str → Option Value} {k : Nat} {σ : Vars} {τ : Tmps} {mu : Muts} {fx : Fixs} {s : Shared}

/-- the datum of a table of texts, in a list -/
theorem strs_get {g : Heap} {vs : List Value} {xs : List Str} (h : IsAll g vs (xs.map D.str)) {i : Nat} {y : Str} (hy : xs[i]? = some y) : ∃ u, vs[i]? = some (.str y u) := by
  obtain ⟨v, hv, hi⟩ := h.get (i := i) (d := .str y) (by rw [List.getElem?_map, hy]; rfl)
  obtain ⟨u, rfl⟩ := is_str hi
  exact ⟨u, hv⟩

theorem gm_translate {M : Model} {A : Around} {E : Value → Shared → Prop} {s : Shared} {x : Str} {t : Tok} {pl : Sem Bool} {Q : Value × List Value → Shared → Prop} (h : Q (.builtin "str.translate", [.str x t]) s) : wpAny M A (getMethod (.str x t) "translate" pl) Q E s := by
  with_reducible exact GM.of (.str x t) (typeIs_str _ _ _) F.slot_str_translate F.type_str_translate GM.noRef h

/-- «x.translate(table)» -/
theorem ev_translate {o e : Expr} {apos pos : Pos} {pl : Sem Bool} {x : List Nat} {xs : List Str} {f : Nat → List Nat} (ho : c.Ev σ mu fx o (.str (T x))) (he : c.Ev σ mu fx e (.list (xs.map D.str)))
    (h0 : x ≠ []) (h20 : ∀ c ∈ x, c < 2 ^ 20) (hn : 3 * x.length ≤ sizeLine) (hlen : ∀ c ∈ x, (f c).length ≤ 3) (hc : ∀ c ∈ x, xs[c]? = some (T (f c)))
    (hm : eval (.Call (.Attribute o "translate" apos) [e] [] pos) c.env = (do
      let ov ← eval o c.env
      standAt apos.atName
      let (f, first) ← holding [ov] (getMethod ov "translate" pl)
      callWith pos f first (backTo pos (starEach [e] c.env)) []))
    (hse : starEach [e] c.env = (false, eval e c.env) :: starEach [] c.env) : c.Ev σ mu fx (.Call (.Attribute o "translate" apos) [e] [] pos) (.str (T (x.flatMap f))) := by
  intro τ s S
  refine MethodCall_ (pl := pl) (wpAny_mono (ho τ s S) (fun v s₁ S₁ => ?_) fun _ _ f => f) hm
  obtain ⟨g, m, I⟩ := S₁
  obtain ⟨t, rfl⟩ := is_str (I.tmps _ (.head _))
  refine gm_translate ?_
  refine PyProof.Rows.callWith_method1 (spliced_more (wpAny_mono (he τ s₁ I.pop.st) (fun v s₂ S₂ => spliced_none ?_) fun _ _ f => f) hse) hse rfl
  obtain ⟨g₂, m₂, I₂⟩ := S₂
  obtain ⟨l, vs, rfl, hl, ha⟩ := is_list (I₂.tmps _ (.head _))
  refine call_meets F.slot_str_translate (typeIs_str _ _ _) F.entry_str_translate (F.args_str_translate_2 _ _)
    (meets_translate (f := f) (items := vs.toArray) h0 h20 hn hlen fun c hcx => ?_) ⟨IsList.keeps hl I₂.gh, fun t' tk => ?_⟩
  · obtain ⟨u, hu⟩ := strs_get ha (hc c hcx)
    exact ⟨u, by simpa using hu⟩
  · exact (I₂.pop.tok.push (.str _ _)).st

/-- «f = x.append» -/
theorem x_bind {x y : Str} {px py apos pos : Pos} {a : Addr} {ds : List D} {rest : List Stmt} {Q : Flow → Shared → Prop} (O : c.Ok K p loose mg mb k) (hy : σ.lookup y = some (.val (.ref a))) (hly : c.env.kindOf y = some .local) (hdb : (y == ("__debug__" : Str)) = false)
    (hl : c.env.kindOf x = some .local) (hr : ∀ u, c.X ((x, .val (.ref u)) :: σ) τ ((a, true, ds) :: mu) ((u, boundAppend a) :: fx) rest Q)
    (he : eval (.Attribute (.Name y py) "append" apos) c.env = (do
      let o ← eval (.Name y py) c.env
      standAt apos.atName
      let r ← holding [o] (getAttr o "append" true)
      letTemporaryGo (.Name y py) o r
      pure r))
    (hs : swapsWith (.Attribute (.Name y py) "append" apos) (some (.Name x px)) pos.line c.env = pure false) : c.X σ τ ((a, true, ds) :: mu) fx (.Assign [.Name x px] (.Attribute (.Name y py) "append" apos) pos :: rest) Q := by
  intro s S
  refine cons_of (wpAny_Assign_Name (Attribute_Name_ (wpAny_mono (ev_local (c := c) (mu := (a, true, ds) :: mu) O hy hly hdb τ s S) (fun v s₁ S₁ => ?_) fun _ _ f => f) he) hs)
  obtain ⟨g, m, I⟩ := S₁
  obtain rfl := is_val (I.tmps _ (.head _))
  obtain ⟨⟨vs, ⟨o, n, ho, hc, hdn, hdt⟩, _⟩, _⟩ := I.muts _ (.head _)
  refine getAttr_append ho hc hdt (hdn rfl) fun tk => ?_
  have I₂ := I.pop.pushFix (o := boundAppend a) rfl (tk := tk)
  exact store_ O hl (I₂.push (.val _)).st fun s' S' => hr _ s' S'

/-- «f(e)», «f» a list's own append -/
theorem x_bound {x : Str} {px pos epos : Pos} {e : Expr} {a u : Addr} {ds : List D} {d : D} {rest : List Stmt} {Q : Flow → Shared → Prop} (O : c.Ok K p loose mg mb k) (hx : σ.lookup x = some (.val (.ref u))) (hl : c.env.kindOf x = some .local) (hdb : (x == ("__debug__" : Str)) = false)
    (hu : (u, boundAppend a) ∈ fx) (he : c.Ev σ ((a, true, ds) :: mu) fx e d) (hn : ds.length ≤ sizeLine) (hr : c.X σ τ ((a, true, ds ++ [d]) :: mu) fx rest Q)
    (hc : eval (.Call (.Name x px) [e] [] pos) c.env = (do callWith pos (← eval (.Name x px) c.env) [] (backTo pos (starEach [e] c.env)) (backToKw pos (keywordEach [] c.env))))
    (hse : starEach [e] c.env = (false, eval e c.env) :: starEach [] c.env)
    (hi : interactive c.env = false) (hs : swapsWith (.Call (.Name x px) [e] [] pos) none epos.line c.env = pure false) :
    c.X σ τ ((a, true, ds) :: mu) fx (.Expr (.Call (.Name x px) [e] [] pos) epos :: rest) Q := by
  intro s S
  refine cons_of (wpAny_Expr_any ?_ hi hs)
  refine Call_ (wpAny_mono (ev_local (c := c) (mu := (a, true, ds) :: mu) O hx hl hdb τ s S) (fun v s₁ S₁ => ?_) fun _ _ f => f) hc
  obtain ⟨g, m, I⟩ := S₁
  obtain rfl := is_val (I.tmps _ (.head _))
  refine callWith_bound (a := a) (spliced_more (wpAny_mono (he τ s₁ I.pop.st) (fun v s₂ S₂ => spliced_none ?_) fun _ _ f => f) hse) hse rfl
  obtain ⟨g₂, m₂, I₂⟩ := S₂
  refine ⟨(I₂.fixs _ hu).1, ?_⟩
  obtain ⟨⟨vs, hlk, hi⟩, _⟩ := I₂.muts _ (.head _)
  refine call_bound (I₂.fixs _ hu).1 hlk.plain (fun h' hl' hs => ?_) (by simpa [hi.length] using hn)
  refine hr _ ⟨g₂, m₂, ?_⟩
  exact I₂.pop.setMut (vs := vs ++ [v]) hs.extBut (.of_plain (by simpa using hl')) (hi.append (.cons (I₂.tmps _ (.head _)) .nil))
end
end Mine

end
/-! ## W3 -/
section
open PySem PySem.W PyProof.Rows PySem.Calls
namespace Mine

section
variable {c : Fc} {K : Frag} {p : Program} {loose : List Str} {mg mb : Str → Option Value} {k : Nat} {σ σ' : Vars} {τ : Tmps} {mu : Muts} {fx : Fixs} {s : Shared} {rest : List Stmt} {Q : Flow → Shared → Prop}

theorem op_min {a b : Int} (O : c.Ok K p loose mg mb k) : c.Op2 σ mu fx (fun v w => call (.builtin "min") [v, w]) (.int a) (.int b) (.int (if b < a then b else a)) := by
  rintro τ s v₁ v₂ ⟨g, m, I⟩
  obtain ⟨t, u, rfl, rfl⟩ := two_ints I
  refine min_two_ints (by show c.A.handled = none; exact O.handled) fun h' tk hk => ?_
  have I₂ := I.pop.pop.step (tk := tk) hk
  by_cases h : b < a
  · rw [if_pos h, if_pos h]; exact (I₂.push (.int _ _)).st
  · rw [if_neg h, if_neg h]; exact (I₂.push (.int _ _)).st

def isInt? (a : Int) : Value → Bool
  | .int i _ => i == a
  | _ => false
theorem any_ints {g : Heap} {a : Int} : ∀ {vs : List Value} {bs : List Int}, IsAll g vs (intsD bs) → vs.any (isInt? a) = bs.any (· == a)
  | _, [], .nil => rfl
  | _, b :: bs, .cons h r => by
    obtain ⟨t, rfl⟩ := is_int h
    rw [List.any_cons, List.any_cons, any_ints r]
    rfl
theorem op_in_tup {a : Int} {bs : List Int} : c.Op2 σ mu fx (compareOp .In) (.int a) (.tup (intsD bs)) (.bool (bs.any (· == a))) := by
  rintro τ s v₁ v₂ ⟨g, m, I⟩
  obtain ⟨t, rfl⟩ := is_int (I.tmps _ (.tail _ (.head _)))
  obtain ⟨l, vs, rfl, hl, ha⟩ := is_tup (I.tmps _ (.head _))
  refine PySem.SeqAt.in_tupleAt (isInt? a) (IsTup.keeps hl I.gh) (fun y hy => ?_) ?_
  · have hy' : y ∈ vs := by simpa using hy
    obtain ⟨i, hi, rfl⟩ := List.getElem_of_mem hy'
    obtain ⟨d, hd, hid⟩ := ha.get' (i := i) (List.getElem?_eq_getElem hi)
    obtain ⟨n, _, rfl⟩ := intsD_get hd
    obtain ⟨u, e⟩ := is_int hid
    rw [e]
    exact PySem.SeqAt.EqAt.int_int _ _ _ _
  · have e : vs.toArray.any (isInt? a) = bs.any (· == a) := by rw [List.any_toArray]; exact any_ints ha
    rw [e]
    exact (I.pop.pop.push (.bool _)).st

/-! ### names held in cells -/
theorem ev_cell {x : Str} {pos : Pos} {C : Addr} {o : Obj} {v : Value} {d : D} (O : c.Ok K p loose mg mb k) (hx : c.env.kindOf x = some .cell) (hC : c.env.cells.lookup x = some C) (hm : (C, o) ∈ fx) (hd : o.data = .cell (some v)) (hv : Is c.g₀ v d)
    (hb : (x == ("__debug__" : Str)) = false) : c.Ev σ mu fx (.Name x pos) d := by
  rintro τ s ⟨g, m, I⟩
  exact wpAny_Name (wpAny_loadName_cell O.kind hx hC ⟨o, (I.fixs _ hm).1, hd⟩ (I.push (hv.keeps I.gk)).st) hb
theorem ev_cell0 {x : Str} {pos : Pos} {C : Addr} {o : Obj} {v : Value} {d : D} (O : c.Ok K p loose mg mb k) (hx : c.env.kindOf x = some .cell) (hC : c.env.cells.lookup x = some C) (hm : c.s₀.heap.get? C = some o) (hd : o.data = .cell (some v)) (hv : Is c.g₀ v d)
    (hb : (x == ("__debug__" : Str)) = false) : c.Ev σ mu fx (.Name x pos) d := by
  rintro τ s ⟨g, m, I⟩
  exact wpAny_Name (wpAny_loadName_cell O.kind hx hC ⟨o, I.keep _ _ hm, hd⟩ (I.push (hv.keeps I.gk)).st) hb

/-- the stable part grows into the frame's own -/
def Fc.up (c : Fc) (g : Heap) : Fc := { c with g₀ := g }
theorem Fc.Ok.up (O : c.Ok K p loose mg mb k) {g : Heap} : (c.up g).Ok K p loose mg mb k := ⟨O.base, O.handled, O.depth, O.units, O.kind, O.globals, O.builtins⟩
theorem In.up {Ba : Heap → Prop} {g₀ g : Heap} {s₀ : Shared} {L : Addr} {m : Str → Option Value} (I : In Ba g₀ s₀ L σ τ mu fx g m s) : In Ba g s₀ L σ τ mu fx g m s :=
  { I with gk := fun _ _ e => e, new := fun b o e => .inl ⟨o, e⟩ }
theorem St.down {Ba : Heap → Prop} {g₀ g₁ : Heap} {s₀ : Shared} {L : Addr} (hk : g₀.StaysIn g₁) (hn : ∀ b o, g₁.get? b = some o → (∃ o', g₀.get? b = some o') ∨ s₀.heap.objs.size ≤ b) (S : St Ba g₁ s₀ L σ τ mu fx s) : St Ba g₀ s₀ L σ τ mu fx s := by
  obtain ⟨g, m, I⟩ := S
  refine ⟨g, m, { I with gk := fun b o e => I.gk _ _ (hk _ _ e), new := fun b o e => ?_ }⟩
  rcases I.new b o e with ⟨o', e'⟩ | q
  · exact hn b o' e'
  · exact .inr q

/-- «y = e», «y» held in a cell -/
theorem x_assign_cell {y : Str} {e : Expr} {d dd : D} {pos pos' : Pos} {C : Addr} {o : Obj} {v₀ : Option Value} (O : c.Ok K p loose mg mb k) (h : c.Ev σ mu ((C, o) :: fx) e d) (hd : o.data = .cell v₀) (hC : c.env.cells.lookup y = some C) (hk : c.env.kindOf y = some .cell)
    (hr : ∀ g₁ v o', c.g₀.StaysIn g₁ → Is g₁ v d → o'.data = .cell (some v) → (c.up g₁).X σ τ mu ((C, o') :: fx) rest ((c.up g₁).Ends dd))
    (hs : swapsWith e (some (.Name y pos')) pos.line c.env = pure false) : c.X σ τ mu ((C, o) :: fx) (.Assign [.Name y pos'] e pos :: rest) (c.Ends dd) := by
  intro s S
  refine cons_of (wpAny_Assign_Name (wpAny_mono (h τ s S) (fun v s₁ S₁ => ?_) fun _ _ f => f) hs)
  obtain ⟨g, m, I⟩ := S₁
  refine wpAny_storeName_cell O.kind hk hC ⟨o, (I.fixs _ (.head _)).1, hd⟩ fun h' hv hsb => ?_
  obtain ⟨o', ho', hd'⟩ := hv
  have I₂ := I.setFix (tk := s₁.toks) hsb.extBut ho'
  have hi := I₂.tmps _ (.head _)
  refine wpAny_mono (hr g v o' I.gk hi hd' _ ⟨g, m, I₂.pop.up⟩) (fun fl s' hq => ?_) fun _ _ f => f
  obtain ⟨v', σ', τ', mu', fx', rfl, S'⟩ := hq
  exact ⟨v', σ', τ', mu', fx', rfl, St.down I.gk I.new S'⟩

/-! ### a comprehension that reads the frame's cells -/
def Fc.EltF (c : Fc) (cl : List (Str × Addr)) (K : Frag) (p : Program) (loose : List Str) (mg mb : Str → Option Value) (k : Nat) (scope : Scope) (target elt : Expr) (ds : List D) (f : Nat → D) (fx : Fixs) : Prop :=
  ∀ C g s₁, (c.compC scope cl C g s₁).Ok K p loose mg mb k → c.g₀.StaysIn g → (∀ q ∈ fx, s₁.heap.get? q.1 = some q.2) → ∀ i d, ds[i]? = some d → ∀ τ' mu' fx' v s, (c.compC scope cl C g s₁).S [] ((v, d) :: τ') mu' fx' s →
    c.wp (assign target (compEnvC scope cl C c.env) v) (fun _ s' => c.wp (eval elt (compEnvC scope cl C c.env)) (fun y s'' => (c.compC scope cl C g s₁).S [] ((y, f i) :: τ') mu' fx' s'') s') s
theorem eltF_name {cl : List (Str × Addr)} {scope : Scope} {x : Str} {px : Pos} {elt : Expr} {ds : List D} {f : Nat → D} (hl : ∀ C, (compEnvC scope cl C c.env).kindOf x = some .local)
    (h : ∀ C g s₁, (c.compC scope cl C g s₁).Ok K p loose mg mb k → c.g₀.StaysIn g → (∀ q ∈ fx, s₁.heap.get? q.1 = some q.2) → ∀ i d, ds[i]? = some d → ∀ mu' fx', (c.compC scope cl C g s₁).Ev [(x, d)] mu' fx' elt (f i)) : c.EltF cl K p loose mg mb k scope (.Name x px) elt ds f fx := by
  intro C g s₁ O hg hf i d hd τ' mu' fx' v s S
  refine wpAny_assign_Name (store_ (c := c.compC scope cl C g s₁) O (hl C) S fun s' S' => ?_)
  exact wp_any (h C g s₁ O hg hf i d hd mu' fx' τ' s' S') fun y s'' S'' => S''.vars fun _ _ e => nomatch e

theorem x_assign_compF {cl : List (Str × Addr)} {y : Str} {elt target iter : Expr} {scope : Scope} {pos spos py : Pos} {ds : List D} {f : Nat → D} (O : c.Ok K p loose mg mb k) (hsrc : c.Src σ mu fx iter ds)
    (hel : c.EltF cl K p loose mg mb k scope target elt ds f fx) (hn : ds.length ≤ sizeLine) (hr : c.X ((y, .list ((List.range ds.length).map f)) :: σ) τ mu fx rest Q) (hl : c.env.kindOf y = some .local)
    (hsw : swapsWith (.ListComp elt [⟨target, iter, [], 0⟩] scope pos) (some (.Name y py)) spos.line c.env = pure true)
    (hclos : closureFor scope c.env = pure cl) (hcell : ∀ y ∈ scope.names, y.2 ≠ .cell) (hkind : scope.kind = .function) (hnames : ∀ y ∈ scope.names, y.2 = .local → scope.names.lookup y.1 = some .local)
    (hs : ∀ x, foldedSetIterable iter c.env x = pure x) :
    c.X σ τ mu fx (.Assign [.Name y py] (.ListComp elt [⟨target, iter, [], 0⟩] scope pos) spos :: rest) Q := by
  intro s S
  refine cons_of ?_
  rw [exec_Assign_Name_used _ _ _ _ hsw]
  refine wpAny_bind (wpAny_standAt (wpAny_bind ?_))
  show wpAny _ c.A (do let _ ← comprehension (.ListComp elt [⟨target, iter, [], 0⟩] scope pos) scope c.env _ (newList []) false (eval iter c.env) (some (assign (.Name y py) c.env))) _ _ s
  refine wpAny_bind (wpAny_mono (wpAny_comprehension_free (use := some (assign (.Name y py) c.env)) (cl := cl) (Q := fun _ s' => c.wp (execs rest c.env) Q s') rfl hs hclos hkind hnames
    (wpAny_mono (hsrc τ s S) (fun xv s₁ h₁ => ?_) fun _ _ f => f)) (fun _ s' hq => wpAny_pure (wpAny_pure hq)) fun _ _ f => f)
  obtain ⟨τ', o, ⟨g, m, J⟩, hi, hfr, hit⟩ := h₁
  refine hit _ ?_
  refine comp_core (cl := cl) (R := fun acc C => compPost (model c.prog c.w) c.A Fa (some (assign (.Name y py) c.env)) (fun _ s' => c.wp (execs rest c.env) Q s') acc C) O hcell hkind hn J hi hfr
    (fun C i d hd τ' mu' fx' v s hS => hel C g s₁ (O.comp hkind) J.gk (fun q hq => (J.fixs q hq).1) i d hd τ' mu' fx' v s hS) ?_
  intro D C g' m' s' I' hl'
  have G : Grow s₁ g s' g' := Grow.of_inner (tk := s'.toks) I' (Heap.ExtBut.refl C s'.heap)
  have I₂ := (J.grown O G).cut.push hl'
  obtain ⟨oC, es, ep, hoC, hrest⟩ := I'.ns
  have hge : s₁.heap.objs.size ≤ C := I'.Ls
  have I₃ := I₂.addFix hoC I'.Lg (Nat.le_trans (Nat.le_of_lt J.s0_lt) hge) (Nat.ne_of_gt (Nat.lt_of_lt_of_le J.L_lt hge)) (fun q hq => Nat.ne_of_lt (Nat.lt_of_lt_of_le (J.mut_lt hq) hge)) fun q hq => Nat.ne_of_lt (Nat.lt_of_lt_of_le (J.fix_lt hq) hge)
  show wpAny _ c.A (assign (.Name y py) c.env (.ref D)) _ _ _
  refine wpAny_assign_Name (store_ O hl I₃.st fun s'' S'' => ?_)
  obtain ⟨g₄, m₄, I₄⟩ := S''
  refine ⟨_, ⟨oC, es, ep, (I₄.fixs _ (.head _)).1, hrest⟩, fun h' hs' => hr _ (I₄.dropFix (tk := s''.toks) hs'.extBut).st⟩
end

/-- a def of one parameter that a comprehension reads, and of one more such name -/
theorem does_cells {prog : Program} {w : World} {K : Frag} {p : Program} {loose : List Str} {mg mb : Str → Option Value} {k : Nat} {f : Addr} {name qual : Str} {params : Arguments} {body : List Stmt} {scope : Scope} {dV kV doc pm cdv ct oc : Value} {an od : Option Addr} {osl : Array (Option Value)}
    {x y : Str} {d₁ d : D}
    (ho : K.lookup f = some ⟨oc, od, .func (fnOf name qual params body scope dV kV doc pm an cdv ct), osl⟩) (hcd : codeIn K cdv qual = true)
    (hbind : ∀ v, bindArgs (fnOf name qual params body scope dV kV doc pm an cdv ct) ⟨[v], []⟩ = pure [(x, v)]) (hx : scope.names.lookup x = some .cell)
    (hcells : ∀ n, cellsFrom n scope.names [] = [(y, n + 1), (x, n)]) (hxy : (x == y) = false) (hyx : (y == x) = false)
    (hbody : ∀ (A : Around) (L : Addr) (g : Heap) (s : Shared) (v : Value) (o₁ o₂ : Obj), (Fc.mk prog w A (envOfC qual scope L f cdv) (Base K p loose mg mb) g s).Ok K p loose mg mb k → Is g v d₁ → o₁.data = .cell (some v) → o₂.data = .cell none →
      (Fc.mk prog w A (envOfC qual scope L f cdv) (Base K p loose mg mb) g s).X [] [] [] [(L + 2, o₂), (L + 1, o₁)] body ((Fc.mk prog w A (envOfC qual scope L f cdv) (Base K p loose mg mb) g s).Ends d))
    (hco : scope.isCoroutine = false) (hgen : scope.isGenerator = false) (hk : scope.kind = .function) :
    Does prog w (Base K p loose mg mb) (k + 1) (.ref f) [d₁] d := by
  intro A s g vs hh hd hu hB hg ha
  obtain ⟨v, rfl, hv⟩ : ∃ v, vs = [v] ∧ Is g v d₁ := by
    cases ha with
    | cons a b => cases b; exact ⟨_, rfl, a⟩
  have Bs := hB.keeps hg
  refine wpAny_call ?_
  refine codeAny_call_cells (fd := fnOf name qual params body scope dV kV doc pm an cdv ct) (body := body) (binds := [(x, v)]) (by show A.depth < 1000; omega) (Bs.X _ _ ho) rfl Bs.T.nolimit (codeRec_of Bs.X hcd) rfl
    (hbind v) rfl (fun q hq => ?_) (fun s₁ x₁ => ?_) hco hgen hk
  · rw [List.mem_singleton.mp hq]
    refine .inr ⟨hx, ?_⟩
    show ((cellsFrom (s.heap.objs.size + 1) scope.names []).lookup x).isSome = true
    rw [hcells]
    simp [List.lookup_cons, hxy]
  let c : Fc := Fc.mk prog w (A.deeper (envOfC qual scope s.heap.objs.size f cdv)) (envOfC qual scope s.heap.objs.size f cdv) (Base K p loose mg mb) g s
  have O : c.Ok K p loose mg mb k := ⟨rfl, hh, by show A.depth + 1 + k ≤ 400; omega, by show A.units + 3 + 10 * k ≤ 400; omega, hk, rfl, rfl⟩
  have hcs : (callEnvC (fnOf name qual params body scope dV kV doc pm an cdv ct) s.heap.objs.size f).cells = [(y, s.heap.objs.size + 1 + 1), (x, s.heap.objs.size + 1)] := hcells _
  obtain ⟨x₂, xc, xp, xa⟩ := x₁
  obtain ⟨⟨h₁, tk, rfl⟩, hns, hkp, _⟩ := x₂
  obtain ⟨o₁, ho₁, hd₁⟩ := xc x (s.heap.objs.size + 1) (by rw [hcs]; simp [List.lookup_cons, hxy])
  obtain ⟨o₂, ho₂, hd₂⟩ := xc y (s.heap.objs.size + 2) (by rw [hcs]; simp [List.lookup_cons])
  have hxk : (callEnvC (fnOf name qual params body scope dV kV doc pm an cdv ct) s.heap.objs.size f).kindOf x = some .cell := hx
  have hd₁' : o₁.data = .cell (some v) := by
    rw [hd₁]
    unfold bindC bindC
    rw [hxk]
    simp
  have hd₂' : o₂.data = .cell none := by
    rw [hd₂]
    unfold bindC bindC
    rw [hxk]
    have : ¬ y = x := by
      intro e
      rw [e] at hyx
      simp at hyx
    simp [this]
  have miss : ∀ n, g.get? (s.heap.objs.size + n) = none := by
    intro n
    cases e : g.get? (s.heap.objs.size + n) with
    | none => rfl
    | some o => exact absurd (Heap.lt_size (hg _ _ e)) (Nat.not_lt.mpr (Nat.le_add_right _ _))
  have S : c.S [] [] [] [(s.heap.objs.size + 2, o₂), (s.heap.objs.size + 1, o₁)] { s with heap := h₁, toks := tk } := by
    refine ⟨g, bindL (callEnvC (fnOf name qual params body scope dV kV doc pm an cdv ct) s.heap.objs.size f).kindOf [(x, v)] fun _ => none, ?_⟩
    exact {
      same := ⟨_, _, rfl⟩
      keep := hkp
      gk := fun _ _ e => e
      gh := fun b o e => hkp b o (hg b o e)
      new := fun b o e => .inl ⟨o, e⟩
      base := hB
      ns := hns
      Ls := Nat.le_refl _
      Lg := miss 0
      vars := fun _ _ e => nomatch e
      tmps := fun q hq => nomatch hq
      muts := fun q hq => nomatch hq
      fixs := fun q hq => by
        rcases List.mem_cons.mp hq with rfl | hq
        · exact ⟨ho₂, miss 2, by show s.heap.objs.size ≤ s.heap.objs.size + 2; omega, by show s.heap.objs.size + 2 ≠ s.heap.objs.size; omega⟩
        · rw [List.mem_singleton.mp hq]
          exact ⟨ho₁, miss 1, by show s.heap.objs.size ≤ s.heap.objs.size + 1; omega, by show s.heap.objs.size + 1 ≠ s.heap.objs.size; omega⟩
      apart := by
        show (List.map _ [] ++ [s.heap.objs.size + 2, s.heap.objs.size + 1]).Nodup
        simp }
  refine wpAny_mono (hbody _ _ g s v o₁ o₂ O hv hd₁' hd₂' _ S) (fun fl s' h => ?_) fun _ _ f => f.elim
  obtain ⟨v', σ', τ', mu', fx', rfl, g', m', I⟩ := h
  exact ⟨g', ⟨I.same, I.keep, I.gk, I.gh, I.new⟩, I.tmps _ (.head _)⟩
end Mine

end
/-! ## G1 -/
section
open PySem PySem.W PyProof.Rows PySem.Calls
namespace Mine

local macro_rules | `(tactic| walk_at "Op") => `(tactic| with_reducible first
  | exact op_add | exact op_sub | exact op_eq | exact op_ne | exact op_lt | exact op_gt | exact op_le | exact op_ge)
local macro_rules | `(tactic| walk_at "Ev") => `(tactic| first
  | with_reducible exact ev_int
  | with_reducible exact ev_str
  | ((with_reducible refine' ev_local ?O ?a ?b ?c); (case O => assumption); (case a => rfl); (case b => rfl); (case c => decide))
  | ((with_reducible refine' ev_bin ?a ?b ?c); (case a => walk_at "Ev"); (case b => walk_at "Ev"); (case c => walk_at "Op"))
  | ((with_reducible refine' ev_cmp ?a ?b ?c ?d); (case a => walk_at "Ev"); (case b => walk_at "Ev"); (case c => walk_at "Op"); (case d => with_unfolding_all rfl)))

local macro_rules | `(tactic| walk_at "Sz") => `(tactic| (rw [sizeLine_eq]; (try simp only [intsD_length, List.length_cons, List.length_nil]); first | decide | omega | (simp; done) | (simp; omega)))

section
variable {w : World} {loose : List Str} {mg mb : Str → Option Value} {p : Program}
noncomputable abbrev KK (w : World) : Frag := MineN.K w.params
abbrev PP : Program := PySem.Challenge.rw_tx0018_01.row.prog

theorem g_wide : nsIn (KK w) mainGlobals (Str.ofString "_law_wide") = some (some (.ref 64)) := by rfl
theorem g_figures : nsIn (KK w) mainGlobals (Str.ofString "_law_figures") = some (some (.ref 71)) := by rfl
theorem g_long : nsIn (KK w) mainGlobals (Str.ofString "_law_long") = some (some (.ref 76)) := by rfl
theorem g_line : nsIn (KK w) mainGlobals (Str.ofString "_law_line") = some (some (.ref 83)) := by rfl
theorem g_len : nsIn (KK w) mainGlobals (Str.ofString "len") = some none := by rfl
theorem g_ord : nsIn (KK w) mainGlobals (Str.ofString "ord") = some none := by rfl
theorem g_chr : nsIn (KK w) mainGlobals (Str.ofString "chr") = some none := by rfl
theorem g_sum : nsIn (KK w) mainGlobals (Str.ofString "sum") = some none := by rfl
theorem g_range : nsIn (KK w) mainGlobals (Str.ofString "range") = some none := by rfl

theorem wide_does (n : Int) : Does PP w (Base (KK w) p loose mg mb) 1 (.ref 64) [.int n] (.bool (wideB n)) := by
  refine does1 (k := 0) (x := Str.ofString "octet") (by rfl) (by rfl) (by intro v; rfl) (by rfl) (by decide) (by rfl) (by rfl) (by rfl) ?_
  intro A L g s O
  refine x_ret_as (ev_and (by walk_at "Ev") fun h1 => ev_and1 (ev_or (by walk_at "Ev") fun h2 => ev_or (by walk_at "Ev") fun h3 => ev_and1 (by walk_at "Ev"))) ?_
  unfold wideB
  congr 1
  rw [Bool.eq_iff_iff]
  simp
  omega

def figsT : List Nat := [48, 49, 50, 51, 52, 53, 54, 55, 56, 57, 65, 66, 67, 68, 69, 70]
theorem fig_at {d : Int} (h0 : 0 ≤ d) (h1 : d < 16) : (seqIndex? d figsT.length).bind (figsT[·]?) = some (hexI d).toNat := by
  obtain ⟨j, rfl⟩ := Int.eq_ofNat_of_zero_le h0
  have hj : j < 16 := by omega
  rw [seqIndex_nat (by exact hj)]
  have : ∀ d : Fin 16, figsT[d.val]? = some (hexI d.val).toNat := by decide
  exact this ⟨j, hj⟩

theorem figures_does {n : Int} (hn : Oct n) : Does PP w (Base (KK w) p loose mg mb) 1 (.ref 71) [.int n] (.list (intsD [hiI n, loI n])) := by
  obtain ⟨h0, h1⟩ := hn
  refine does1 (k := 0) (x := Str.ofString "octet") (by rfl) (by rfl) (by intro v; rfl) (by rfl) (by decide) (by rfl) (by rfl) (by rfl) ?_
  intro A L g s O
  refine x_assign O (ev_text (l := figsT) (by decide)) ?_ (by rfl) (by rfl)
  have e1 : n.fdiv 16 = n / 16 := Int.fdiv_eq_ediv_of_nonneg _ (by decide)
  have e2 : n.fmod 16 = n % 16 := Int.fmod_eq_emod_of_nonneg _ (by decide)
  have b1 := hiI_bounds (o := n) ⟨h0, h1⟩
  have b2 := loI_bounds (o := n) ⟨h0, h1⟩
  refine x_ret_as (ev_list O (evl_cons (ev_call1 (ev_builtin O g_ord (by boot_by_name) (by decide) (by rfl) (by decide)) (ev_sub (by walk_at "Ev")
      (ev_as (ev_bin (by walk_at "Ev") (by walk_at "Ev") (op_floordiv (by decide) (PyProof.noPylong_small (by decide)))) (congrArg D.int e1))
      (op_item_str (n := (hiI n).toNat) (by omega) (by omega) (fig_at (by omega) (by omega)) (by intro _ _ _; rfl))) op_ord (by rfl) (by rfl))
    (evl_cons (ev_call1 (ev_builtin O g_ord (by boot_by_name) (by decide) (by rfl) (by decide)) (ev_sub (by walk_at "Ev")
      (ev_as (ev_bin (by walk_at "Ev") (by walk_at "Ev") (op_mod (by decide) (PyProof.noPylong_small (by decide)))) (congrArg D.int e2))
      (op_item_str (n := (loI n).toNat) (by omega) (by omega) (fig_at (by omega) (by omega)) (by intro _ _ _; rfl))) op_ord (by rfl) (by rfl)) evl_nil (by rfl)) (by rfl)) (by walk_at "Sz")) ?_
  have c1 : (((hiI n).toNat : Nat) : Int) = hiI n := by omega
  have c2 : (((loI n).toNat : Nat) : Int) = loI n := by omega
  rw [c1, c2]; rfl

theorem long_does (row : List Int) (hn : row.length ≤ 2 ^ 20) : Does PP w (Base (KK w) p loose mg mb) 2 (.ref 76) [.list (intsD row)] (.int (longI row)) := by
  refine does1 (k := 1) (x := Str.ofString "row") (by rfl) (by rfl) (by intro v; rfl) (by rfl) (by decide) (by rfl) (by rfl) (by rfl) ?_
  intro A L g s O
  refine x_ret (ev_call1 (ev_builtin O g_sum (by boot_by_name) (by decide) (by rfl) (by decide)) (d₁ := .list (intsD (row.map sizeI))) ?_ (op_sum O) (by rfl) (by rfl))
  refine ev_as (ev_comp (f := fun i => .int (sizeI ((row[i]?).getD 0))) O (src_list (by walk_at "Ev")) (elt_name (by intro _; rfl) ?_) (by rw [intsD_length, sizeLine_eq]; omega) (by decide) (by decide) (by rfl) (by decide) (by intro _; rfl)) ?_
  · intro C g s₁ O i d hd mu fx
    obtain ⟨n, hn, rfl⟩ := intsD_get hd
    rw [hn]
    refine ev_as (ev_if (d := .int (sizeI n)) (tr_bool (ev_callDef O (ev_global O g_wide (by rfl) (by decide)) (by rfl) (evl_cons (by walk_at "Ev") evl_nil (by rfl)) (wide_does n) (by decide) (by rfl) (by rfl) (by rfl)) (by rfl))
      (fun h => ev_as ev_int (by unfold sizeI; rw [h]; rfl)) (fun h => ev_as ev_int (by unfold sizeI; rw [h]; rfl))) rfl
  · congr 1
    rw [intsD_length]
    unfold intsD
    rw [List.map_map]
    exact range_map row _ _ fun i a h => by simp [h]
end
end Mine

end
/-! ## G2 -/
section
open PySem PySem.W PyProof.Rows PySem.Calls
namespace Mine

local macro_rules | `(tactic| walk_at "Op") => `(tactic| with_reducible first
  | exact op_add | exact op_sub | exact op_eq | exact op_ne | exact op_lt | exact op_gt | exact op_le | exact op_ge)
local macro_rules | `(tactic| walk_at "Ev") => `(tactic| first
  | with_reducible exact ev_int
  | with_reducible exact ev_str
  | ((with_reducible refine' ev_local ?O ?a ?b ?c); (case O => assumption); (case a => rfl); (case b => rfl); (case c => decide))
  | ((with_reducible refine' ev_neg ?a); (case a => walk_at "Ev"))
  | ((with_reducible refine' ev_bin ?a ?b ?c); (case a => walk_at "Ev"); (case b => walk_at "Ev"); (case c => walk_at "Op"))
  | ((with_reducible refine' ev_cmp ?a ?b ?c ?d); (case a => walk_at "Ev"); (case b => walk_at "Ev"); (case c => walk_at "Op"); (case d => with_unfolding_all rfl)))
local macro_rules | `(tactic| walk_at "Tr") => `(tactic| ((with_reducible refine' tr_cmp ?a ?b ?c ?d); (case a => walk_at "Ev"); (case b => walk_at "Ev"); (case c => walk_at "Op"); (case d => with_unfolding_all rfl)))
local macro_rules | `(tactic| walk_at "Sz") => `(tactic| (rw [sizeLine_eq]; (try simp only [intsD_length, List.length_cons, List.length_nil]); first | decide | omega | (simp; done) | (simp; omega)))
local macro_rules | `(tactic| walk_at "Wk") => `(tactic| ((repeat refine weak_cons (by rfl) ?_); exact weak_nil))

section
variable {w : World} {loose : List Str} {mg mb : Str → Option Value} {p : Program}

theorem takeWhile_all {l : List Int} {i : Nat} (h : ∀ o ∈ l.take i, o ≠ 10) (hi : l[i]? = some 10) : lineI l = l.take i := by
  have hlt : i < l.length := by
    rcases Nat.lt_or_ge i l.length with h1 | h1
    · exact h1
    · rw [List.getElem?_eq_none h1] at hi; cases hi
  have e : l = l.take i ++ (10 :: l.drop (i + 1)) := by
    have hg : l[i] = 10 := by rw [List.getElem?_eq_getElem hlt] at hi; exact Option.some.inj hi
    rw [← hg, ← List.drop_eq_getElem_cons hlt, List.take_append_drop]
  have e2 : lineI (l.take i ++ (10 :: l.drop (i + 1))) = l.take i := by
    unfold lineI
    rw [List.takeWhile_append_of_pos (by intro a ha; simpa using h a ha)]
    simp
  rw [← e] at e2
  exact e2
theorem takeWhile_none : ∀ {l : List Int}, (∀ o ∈ l, o ≠ 10) → lineI l = l
  | [], _ => rfl
  | a :: l, h => by
    have := takeWhile_none (l := l) fun o ho => h o (.tail _ ho)
    unfold lineI at this ⊢
    rw [List.takeWhile_cons, if_pos (by simpa using h a (.head _)), this]

theorem line_does (row : List Int) (hn : row.length ≤ 2 ^ 20) : Does PP w (Base (KK w) p loose mg mb) 1 (.ref 83) [.list (intsD row)] (.list (intsD (lineI row))) := by
  refine does1 (k := 0) (x := Str.ofString "row") (by rfl) (by rfl) (by intro v; rfl) (by rfl) (by decide) (by rfl) (by rfl) (by rfl) ?_
  intro A L g s O
  refine x_new O (fun a => ?_) (by rfl) (by rfl)
  refine x_for (ds := intsD row) O (fun i => ∀ o ∈ row.take i, o ≠ 10) (fun _ => [(Str.ofString "line", .val (.ref a)), (Str.ofString "row", .list (intsD row))]) (fun i => [(a, true, intsD (row.take i))]) (by simp)
    (src_list (by walk_at "Ev")) (by rfl) ?_ ?_ (by intro _; rfl) (by intro _ _; rfl)
  · intro i d hP hd τ' fx'
    obtain ⟨n, hn', rfl⟩ := intsD_get hd
    refine x_if (by walk_at "Tr") (fun h => ?_) (fun h => ?_)
    · have h10 : n = 10 := by simpa using h
      subst h10
      refine x_freeze O (x := Str.ofString "line") (by rfl) ?_
      refine x_ret_in (fun _ _ h => h) (by walk_at "Ev") ?_
      rw [takeWhile_all hP hn']
    · refine x_end (x_append O (by rfl) (by rfl) (by decide) (by walk_at "Ev") (by rw [intsD_length, List.length_take]; walk_at "Sz") ?_ (by rfl) (by rfl) (by rfl) (by rfl))
      refine x_turn ?_ (by walk_at "Wk") ?_
      · intro o ho
        rw [List.take_add_one, hn', List.mem_append] at ho
        rcases ho with ho | ho
        · exact hP o ho
        · simp at ho; subst ho; simpa using h
      · rw [List.take_add_one, hn']; simp [intsD]
  · intro hP
    rw [intsD_length] at hP
    refine x_freeze O (x := Str.ofString "line") (by rfl) ?_
    refine x_ret_as (by walk_at "Ev") ?_
    rw [intsD_length, List.take_length] at *
    rw [takeWhile_none hP]
end
end Mine

end
/-! ## G3 -/
section
open PySem PySem.W PyProof.Rows PySem.Calls
namespace Mine

local macro_rules | `(tactic| walk_at "Op") => `(tactic| with_reducible first
  | exact op_add | exact op_sub | exact op_eq | exact op_ne | exact op_lt | exact op_gt | exact op_le | exact op_ge)
local macro_rules | `(tactic| walk_at "Ev") => `(tactic| first
  | with_reducible exact ev_int
  | with_reducible exact ev_str
  | ((with_reducible refine' ev_local ?O ?a ?b ?c); (case O => assumption); (case a => rfl); (case b => rfl); (case c => decide))
  | ((with_reducible refine' ev_neg ?a); (case a => walk_at "Ev"))
  | ((with_reducible refine' ev_bin ?a ?b ?c); (case a => walk_at "Ev"); (case b => walk_at "Ev"); (case c => walk_at "Op"))
  | ((with_reducible refine' ev_cmp ?a ?b ?c ?d); (case a => walk_at "Ev"); (case b => walk_at "Ev"); (case c => walk_at "Op"); (case d => with_unfolding_all rfl)))
local macro_rules | `(tactic| walk_at "Tr") => `(tactic| ((with_reducible refine' tr_cmp ?a ?b ?c ?d); (case a => walk_at "Ev"); (case b => walk_at "Ev"); (case c => walk_at "Op"); (case d => with_unfolding_all rfl)))
local macro_rules | `(tactic| walk_at "Sz") => `(tactic| (rw [sizeLine_eq]; (try simp only [intsD_length, List.length_cons, List.length_nil]); first | decide | omega | (simp; done) | (simp; omega)))
local macro_rules | `(tactic| walk_at "Wk") => `(tactic| ((repeat refine weak_cons (by rfl) ?_); exact weak_nil))

section
variable {w : World} {loose : List Str} {mg mb : Str → Option Value} {p : Program}

def pairsD (ms : List (Int × Int)) : List D := ms.map fun m => .tup [.int m.1, .int m.2]
theorem pairsD_length (ms : List (Int × Int)) : (pairsD ms).length = ms.length := by simp [pairsD]

def markSt (longest : Int) (o : Int) (r : List Int) (x : List (Int × Int) × Int × Int) : List (Int × Int) × Int × Int :=
  if o = 10 then (x.1 ++ [(o, x.2.1 + sizeI o - 1)], x.2.1 + sizeI o, -1 + sizeI o)
  else if brk longest x.2.2 o r then (x.1 ++ [(o, x.2.1 + 2 + sizeI o - 1)], x.2.1 + 2 + sizeI o, 0 + sizeI o)
  else (x.1 ++ [(o, x.2.1 + sizeI o - 1)], x.2.1 + sizeI o, x.2.2 + sizeI o)
def markN (longest : Int) (row : List Int) : Nat → List (Int × Int) × Int × Int
  | 0 => ([], 0, 0)
  | i + 1 => match row.drop i with
    | [] => markN longest row i
    | o :: r => markSt longest o r (markN longest row i)
theorem markN_succ {longest : Int} {row : List Int} {i : Nat} {o : Int} (h : row[i]? = some o) : markN longest row (i + 1) = markSt longest o (row.drop (i + 1)) (markN longest row i) := by
  have hlt : i < row.length := by
    rcases Nat.lt_or_ge i row.length with h1 | h1
    · exact h1
    · rw [List.getElem?_eq_none h1] at h; cases h
  have hg : row[i] = o := by rw [List.getElem?_eq_getElem hlt] at h; exact Option.some.inj h
  rw [markN, List.drop_eq_getElem_cons hlt, hg]
theorem markN_go (longest : Int) (row : List Int) : ∀ i, i ≤ row.length → markGo longest row 0 0 = (markN longest row i).1 ++ markGo longest (row.drop i) (markN longest row i).2.1 (markN longest row i).2.2
  | 0, _ => by simp [markN]
  | i + 1, h => by
    rw [markN_go longest row i (by omega)]
    have hlt : i < row.length := by omega
    have hr : row[i]? = some row[i] := by simp
    rw [markN_succ hr, List.drop_eq_getElem_cons hlt]
    unfold markSt
    rw [markGo]
    split
    · simp
    · split <;> simp
theorem markN_length (longest : Int) (row : List Int) : ∀ i, i ≤ row.length → (markN longest row i).1.length = i
  | 0, _ => rfl
  | i + 1, h => by
    have hr : row[i]? = some row[i] := by simp
    have ih := markN_length longest row i (by omega)
    rw [markN_succ hr]
    unfold markSt
    split
    · simp [ih]
    · split <;> simp [ih]

theorem cut_from {α : Type} (xs : List α) (i : Nat) : cut xs (some (i : Int)) none = xs.drop i := by
  unfold cut
  simp only [Option.elim]
  rw [clipAt_nat]
  rcases Nat.le_total i xs.length with h | h
  · rw [Nat.min_eq_left h, List.take_of_length_le (by simp)]
  · rw [Nat.min_eq_right h, List.drop_eq_nil_of_le (Nat.le_refl _), List.drop_eq_nil_of_le h]; simp
theorem drop_intsD (l : List Int) (i : Nat) : (intsD l).drop i = intsD (l.drop i) := by simp [intsD, List.map_drop]

theorem range_get {n : Nat} {f : Nat → D} {i : Nat} {d : D} (h : ((List.range n).map f)[i]? = some d) : d = f i ∧ i < n := by
  rw [List.getElem?_map] at h
  obtain ⟨j, hj, rfl⟩ := Option.map_eq_some_iff.mp h
  rcases Nat.lt_or_ge i n with hlt | hge
  · rw [List.getElem?_range hlt] at hj
    obtain rfl := Option.some.inj hj
    exact ⟨rfl, hlt⟩
  · rw [List.getElem?_eq_none (by simpa using hge)] at hj; cases hj
theorem lineI_length : ∀ l : List Int, (lineI l).length ≤ l.length
  | [] => Nat.le_refl _
  | a :: l => by
    have := lineI_length l
    unfold lineI at this ⊢
    rw [List.takeWhile_cons]
    split
    · simp only [List.length_cons]; omega
    · simp

theorem marked_does (row : List Int) (longest : Int) (hn : row.length ≤ 2 ^ 20) : Does PP w (Base (KK w) p loose mg mb) 3 (.ref 90) [.list (intsD row), .int longest] (.list (pairsD (markGo longest row 0 0))) := by
  refine does2 (k := 2) (x := Str.ofString "row") (y := Str.ofString "longest") (by rfl) (by rfl) (by intro v u; rfl) (by rfl) (by rfl) (by decide) (by rfl) (by rfl) (by rfl) ?_
  intro A L g s O
  refine x_new O (fun a => ?_) (by rfl) (by rfl)
  refine x_assign O (by walk_at "Ev") ?_ (by rfl) (by rfl)
  refine x_assign O (by walk_at "Ev") ?_ (by rfl) (by rfl)
  refine x_weaken (σ' := [(Str.ofString "marked", .val (.ref a)), (Str.ofString "place", .int 0), (Str.ofString "column", .int 0), (Str.ofString "row", .list (intsD row)), (Str.ofString "longest", .int longest)]) ?_ (by walk_at "Wk")
  refine x_for O (fun _ => True) (fun i => [(Str.ofString "marked", .val (.ref a)), (Str.ofString "place", .int (markN longest row i).2.1), (Str.ofString "column", .int (markN longest row i).2.2), (Str.ofString "row", .list (intsD row)), (Str.ofString "longest", .int longest)])
    (fun i => [(a, true, pairsD (markN longest row i).1)]) trivial
    (src_range1 (ev_builtin O g_range (by boot_by_name) (by decide) (by rfl) (by decide)) (ev_call1 (ev_builtin O g_len (by boot_by_name) (by decide) (by rfl) (by decide)) (by walk_at "Ev") (op_len_list (by rw [intsD_length]; walk_at "Sz")) (by rfl) (by rfl)) (by omega) (by rw [intsD_length]; omega) (by rfl) (by rfl))
    (by rfl) ?_ ?_ (by intro _; rfl) (by intro _ _; rfl)
  · intro i d _ hd τ' fx'
    obtain ⟨rfl, hlt⟩ := range_get hd
    rw [intsD_length, Int.toNat_natCast] at hlt
    obtain ⟨o, hr⟩ : ∃ o, row[i]? = some o := ⟨_, List.getElem?_eq_getElem hlt⟩
    have key : (intsD row)[((i : Nat) : Int).toNat]? = some (D.int o) := by rw [Int.toNat_natCast]; unfold intsD; rw [List.getElem?_map, hr]; rfl
    have hdrop : row.drop i = o :: row.drop (i + 1) := by
      have hg : row[i] = o := by rw [List.getElem?_eq_getElem hlt] at hr; exact Option.some.inj hr
      rw [List.drop_eq_getElem_cons hlt, hg]
    have hsz : longI [o] = sizeI o := by simp [longI]
    generalize hms : (markN longest row i).1 = ms
    generalize hP : (markN longest row i).2.1 = P
    generalize hC : (markN longest row i).2.2 = C
    have hlen : ms.length = i := by rw [← hms]; exact markN_length longest row i (by omega)
    have hnx : markN longest row (i + 1) = markSt longest o (row.drop (i + 1)) (ms, P, C) := by rw [markN_succ hr, ← hms, ← hP, ← hC]
    refine x_assign O (ev_callDef O (ev_global O g_long (by rfl) (by decide)) (by rfl) (evl_cons (ev_list O (evl_cons (ev_sub (by walk_at "Ev") (by walk_at "Ev") (op_item (by omega) (by omega) key (by intro _ _; rfl))) evl_nil (by rfl)) (by walk_at "Sz")) evl_nil (by rfl)) (ds := [.list (intsD [o])]) (long_does [o] (by simp)) (by decide) (by rfl) (by rfl) (by rfl)) ?_ (by rfl) (by rfl)
    rw [hsz]
    refine x_cut (fun j : Int × Int => markN longest row (i + 1) = (ms ++ [(o, j.1 + sizeI o - 1)], j.1 + sizeI o, j.2 + sizeI o)) (fun j => [(Str.ofString "place", .int j.1), (Str.ofString "column", .int j.2), (Str.ofString "size", .int (sizeI o)), (Str.ofString "k", .int (i : Int)), (Str.ofString "marked", .val (.ref a)), (Str.ofString "row", .list (intsD row)), (Str.ofString "longest", .int longest)]) ?_ ?_
    rotate_left
    · intro j e
      refine x_aug_add O (by rfl) (by walk_at "Ev") ?_ (by rfl)
      refine x_aug_add O (by rfl) (by walk_at "Ev") ?_ (by rfl)
      refine x_append O (by rfl) (by rfl) (by decide) (ev_tuple O (evl_cons (ev_sub (by walk_at "Ev") (by walk_at "Ev") (op_item (by omega) (by omega) key (by intro _ _; rfl))) (evl_cons (by walk_at "Ev") evl_nil (by rfl)) (by rfl)) (by walk_at "Sz")) (by rw [pairsD_length, hlen]; walk_at "Sz") ?_ (by rfl) (by rfl) (by rfl) (by rfl)
      rw [e]
      refine x_turn trivial (by walk_at "Wk") ?_
      simp [pairsD]
    refine x_if (tr_cmp (ev_sub (by walk_at "Ev") (by walk_at "Ev") (op_item (by omega) (by omega) key (by intro _ _; rfl))) (by walk_at "Ev") (by walk_at "Op") (by with_unfolding_all rfl)) (fun h => ?_) (fun h => ?_)
    · have h10 : o = 10 := by simpa using h
      refine x_assign O (by walk_at "Ev") ?_ (by rfl) (by rfl)
      refine x_end (x_meet (P, -1) ?_ (by walk_at "Wk"))
      rw [hnx]; unfold markSt; rw [if_pos h10]
    · have h10 : ¬ o = 10 := by simpa using h
      refine x_if (tr_and (by walk_at "Tr") fun h2 => tr_and (tr_cmp (ev_bin (by walk_at "Ev") (ev_callDef O (ev_global O g_long (by rfl) (by decide)) (by rfl) (evl_cons (ev_callDef O (ev_global O g_line (by rfl) (by decide)) (by rfl)
          (evl_cons (ev_as (ev_slice O (by walk_at "Ev") (pt_some (by walk_at "Ev")) pt_none (by rw [intsD_length]; walk_at "Sz") (by intro _ _; rfl)) (congrArg D.list ((cut_from _ _).trans (drop_intsD _ _)))) evl_nil (by rfl)) (line_does (row.drop i) (by rw [List.length_drop]; omega)) (by decide) (by rfl) (by rfl) (by rfl)) evl_nil (by rfl))
          (long_does (lineI (row.drop i)) (by have := lineI_length (row.drop i); rw [List.length_drop] at this; omega)) (by decide) (by rfl) (by rfl) (by rfl)) (by walk_at "Op")) (by walk_at "Ev") (by walk_at "Op") (by with_unfolding_all rfl)) fun _ => tr_and_nil) (fun h2 => ?_) (fun h2 => ?_)
      · have hb : brk longest C o (row.drop (i + 1)) := by
          unfold brk; rw [← hdrop]
          simp only [Bool.and_true, Bool.and_eq_true, decide_eq_true_eq] at h2
          exact ⟨h2.1, h2.2⟩
        refine x_aug_add O (by rfl) (by walk_at "Ev") ?_ (by rfl)
        refine x_assign O (by walk_at "Ev") ?_ (by rfl) (by rfl)
        refine x_end (x_end (x_meet (P + 2, 0) ?_ (by walk_at "Wk")))
        rw [hnx]; unfold markSt; rw [if_neg h10, if_pos hb]
      · have hb : ¬ brk longest C o (row.drop (i + 1)) := by
          unfold brk; rw [← hdrop]
          rintro ⟨q1, q2⟩
          simp only [Bool.and_true, Bool.and_eq_false_iff, decide_eq_false_iff_not] at h2
          rcases h2 with q | q
          · exact q q1
          · exact q q2
        refine x_end (x_end (x_meet (P, C) ?_ (by walk_at "Wk")))
        rw [hnx]; unfold markSt; rw [if_neg h10, if_neg hb]
  · intro _
    rw [List.length_map, List.length_range, Int.toNat_natCast, intsD_length]
    refine x_freeze O (x := Str.ofString "marked") (by rfl) ?_
    refine x_ret_as (by walk_at "Ev") ?_
    rw [markN_go longest row row.length (Nat.le_refl _), List.drop_length]
    simp [markGo]
end
end Mine

end
/-! ## G4 -/
section
open PySem PySem.W PyProof.Rows PySem.Calls
namespace Mine

local macro_rules | `(tactic| walk_at "Op") => `(tactic| with_reducible first
  | exact op_add | exact op_sub | exact op_eq | exact op_ne | exact op_lt | exact op_gt | exact op_le | exact op_ge)
local macro_rules | `(tactic| walk_at "Ev") => `(tactic| first
  | with_reducible exact ev_int
  | with_reducible exact ev_str
  | ((with_reducible refine' ev_local ?O ?a ?b ?c); (case O => assumption); (case a => rfl); (case b => rfl); (case c => decide))
  | ((with_reducible refine' ev_neg ?a); (case a => walk_at "Ev"))
  | ((with_reducible refine' ev_bin ?a ?b ?c); (case a => walk_at "Ev"); (case b => walk_at "Ev"); (case c => walk_at "Op"))
  | ((with_reducible refine' ev_cmp ?a ?b ?c ?d); (case a => walk_at "Ev"); (case b => walk_at "Ev"); (case c => walk_at "Op"); (case d => with_unfolding_all rfl)))
local macro_rules | `(tactic| walk_at "Tr") => `(tactic| ((with_reducible refine' tr_cmp ?a ?b ?c ?d); (case a => walk_at "Ev"); (case b => walk_at "Ev"); (case c => walk_at "Op"); (case d => with_unfolding_all rfl)))
local macro_rules | `(tactic| walk_at "Sz") => `(tactic| (rw [sizeLine_eq]; (try simp only [intsD_length, List.length_cons, List.length_nil]); first | decide | omega | (simp; done) | (simp; omega)))
local macro_rules | `(tactic| walk_at "Wk") => `(tactic| ((repeat refine weak_cons (by rfl) ?_); exact weak_nil))

section
variable {w : World} {loose : List Str} {mg mb : Str → Option Value} {p : Program}

theorem g_wide' : True := trivial
def tailsD (ts : List (List (Int × Int))) : List D := ts.map fun t => .list (pairsD t)
def tailsN (ms : List (Int × Int)) : Nat → List (List (Int × Int))
  | 0 => []
  | i + 1 => match ms.drop i with
    | [] => tailsN ms i
    | (o, p) :: r => tailsN ms i ++ tails1 o p r
theorem tailsN_succ {ms : List (Int × Int)} {i : Nat} {o p : Int} (h : ms[i]? = some (o, p)) : tailsN ms (i + 1) = tailsN ms i ++ tails1 o p (ms.drop (i + 1)) := by
  have hlt : i < ms.length := by
    rcases Nat.lt_or_ge i ms.length with h1 | h1
    · exact h1
    · rw [List.getElem?_eq_none h1] at h; cases h
  have hg : ms[i] = (o, p) := by rw [List.getElem?_eq_getElem hlt] at h; exact Option.some.inj h
  rw [tailsN, List.drop_eq_getElem_cons hlt, hg]
theorem tailsN_all (ms : List (Int × Int)) : ∀ i, i ≤ ms.length → tailsP ms = tailsN ms i ++ tailsP (ms.drop i)
  | 0, _ => by simp [tailsN]
  | i + 1, h => by
    have hlt : i < ms.length := by omega
    rw [tailsN_all ms i (by omega), tailsN_succ (o := ms[i].1) (p := ms[i].2) (List.getElem?_eq_getElem hlt), List.drop_eq_getElem_cons hlt]
    have e : ∀ m : Int × Int, tailsP (m :: ms.drop (i + 1)) = tails1 m.1 m.2 (ms.drop (i + 1)) ++ tailsP (ms.drop (i + 1)) := fun _ => rfl
    rw [e, List.append_assoc]
theorem tailsN_length (ms : List (Int × Int)) : ∀ i, (tailsN ms i).length ≤ 3 * i
  | 0 => by simp [tailsN]
  | i + 1 => by
    have ih := tailsN_length ms i
    unfold tailsN
    split
    · omega
    · rename_i o p r _
      rw [List.length_append]
      have : (tails1 o p r).length ≤ 3 := by unfold tails1; split <;> simp
      omega
theorem drop_pairsD (l : List (Int × Int)) (i : Nat) : (pairsD l).drop i = pairsD (l.drop i) := by simp [pairsD, List.map_drop]

theorem tails_does (ms : List (Int × Int)) (hn : ms.length ≤ 2 ^ 20) (ho : ∀ m ∈ ms, Oct m.1) : Does PP w (Base (KK w) p loose mg mb) 2 (.ref 97) [.list (pairsD ms)] (.list (tailsD (tailsP ms))) := by
  refine does1 (k := 1) (x := Str.ofString "marked") (by rfl) (by rfl) (by intro v; rfl) (by rfl) (by decide) (by rfl) (by rfl) (by rfl) ?_
  intro A L g s O
  refine x_new O (fun a => ?_) (by rfl) (by rfl)
  refine x_for O (fun _ => True) (fun i => [(Str.ofString "tails", .val (.ref a)), (Str.ofString "marked", .list (pairsD ms))])
    (fun i => [(a, true, tailsD (tailsN ms i))]) trivial
    (src_range1 (ev_builtin O g_range (by boot_by_name) (by decide) (by rfl) (by decide)) (ev_call1 (ev_builtin O g_len (by boot_by_name) (by decide) (by rfl) (by decide)) (by walk_at "Ev") (op_len_list (by rw [pairsD_length]; walk_at "Sz")) (by rfl) (by rfl)) (by omega) (by rw [pairsD_length]; omega) (by rfl) (by rfl))
    (by rfl) ?_ ?_ (by intro _; rfl) (by intro _ _; rfl)
  · intro i d _ hd τ' fx'
    obtain ⟨rfl, hlt⟩ := range_get hd
    rw [pairsD_length, Int.toNat_natCast] at hlt
    obtain ⟨⟨o, q⟩, hr⟩ : ∃ m, ms[i]? = some m := ⟨_, List.getElem?_eq_getElem hlt⟩
    have hoct : Oct o := ho (o, q) (List.mem_of_getElem? hr)
    have key : (pairsD ms)[((i : Nat) : Int).toNat]? = some (D.tup [.int o, .int q]) := by rw [Int.toNat_natCast]; unfold pairsD; rw [List.getElem?_map, hr]; rfl
    have hdrop : ms.drop i = (o, q) :: ms.drop (i + 1) := by
      have hg : ms[i] = (o, q) := by rw [List.getElem?_eq_getElem hlt] at hr; exact Option.some.inj hr
      rw [List.drop_eq_getElem_cons hlt, hg]
    have hnx := tailsN_succ hr
    have hl := tailsN_length ms i
    generalize tailsN ms i = ts at hnx hl
    have hll : (tailsD ts).length ≤ 3 * i := by simpa [tailsD] using hl
    have sl : ∀ {σ : Vars} {mu : Muts} {fx : Fixs} {e : Expr} {c : Fc} {value : Expr} {q₁ q₂ : Pos} {j : Nat}, c.Ok (KK w) p loose mg mb 1 → c.Ev σ mu fx value (.list (pairsD ms)) → c.Ev σ mu fx e (.int (j : Int)) → (∀ o r, letTemporaryGo value o r = pure ()) →
        c.Ev σ mu fx (.Subscript value (.Slice (some e) none none q₁) q₂) (.list (pairsD (ms.drop j))) := by
      intro σ mu fx e c value q₁ q₂ j O hv he ht
      exact ev_as (ev_slice O hv (pt_some he) pt_none (by rw [pairsD_length, sizeLine_eq]; omega) ht) (congrArg D.list ((cut_from _ _).trans (drop_pairsD _ _)))
    refine x_append O (by rfl) (by rfl) (by decide) (sl O (by walk_at "Ev") (by walk_at "Ev") (by intro _ _; rfl)) (by rw [sizeLine_eq]; omega) ?_ (by rfl) (by rfl) (by rfl) (by rfl)
    refine x_unpack O (ev_sub (by walk_at "Ev") (by walk_at "Ev") (op_item (by omega) (by omega) key (by intro _ _; rfl))) (.inl rfl) (by rfl) (by rfl) ?_ (by rfl) (by rfl) (by rfl)
    have hD : ∀ r : List (List (Int × Int)), tailsD ts ++ [D.list (pairsD (ms.drop i))] ++ tailsD r = tailsD (ts ++ (ms.drop i :: r)) := by intro r; simp [tailsD]
    refine x_if (tr_bool (ev_callDef O (ev_global O g_wide (by rfl) (by decide)) (by rfl) (evl_cons (by walk_at "Ev") evl_nil (by rfl)) (wide_does o) (by decide) (by rfl) (by rfl) (by rfl)) (by rfl)) (fun h => ?_) (fun h => ?_)
    · refine x_unpack O (ev_callDef O (ev_global O g_figures (by rfl) (by decide)) (by rfl) (evl_cons (by walk_at "Ev") evl_nil (by rfl)) (figures_does hoct) (by decide) (by rfl) (by rfl) (by rfl)) (.inr rfl) (by rfl) (by rfl) ?_ (by rfl) (by rfl) (by rfl)
      have hj : ((i : Nat) : Int) + 1 = ((i + 1 : Nat) : Int) := by omega
      refine x_append O (by rfl) (by rfl) (by decide) (ev_bin (ev_list O (evl_cons (ev_tuple O (evl_cons (by walk_at "Ev") (evl_cons (by walk_at "Ev") evl_nil (by rfl)) (by rfl)) (by walk_at "Sz")) (evl_cons (ev_tuple O (evl_cons (by walk_at "Ev") (evl_cons (by walk_at "Ev") evl_nil (by rfl)) (by rfl)) (by walk_at "Sz")) evl_nil (by rfl)) (by rfl)) (by walk_at "Sz"))
        (sl O (by walk_at "Ev") (ev_as (by walk_at "Ev") (congrArg D.int hj)) (by intro _ _; rfl)) (op_add_list O (by rw [pairsD_length, List.length_drop, sizeLine_eq]; simp only [List.length_cons, List.length_nil]; omega))) (by rw [List.length_append, sizeLine_eq]; simp only [List.length_cons, List.length_nil]; omega) ?_ (by rfl) (by rfl) (by rfl) (by rfl)
      refine x_append O (by rfl) (by rfl) (by decide) (ev_bin (ev_list O (evl_cons (ev_tuple O (evl_cons (by walk_at "Ev") (evl_cons (by walk_at "Ev") evl_nil (by rfl)) (by rfl)) (by walk_at "Sz")) evl_nil (by rfl)) (by walk_at "Sz"))
        (sl O (by walk_at "Ev") (ev_as (by walk_at "Ev") (congrArg D.int hj)) (by intro _ _; rfl)) (op_add_list O (by rw [pairsD_length, List.length_drop, sizeLine_eq]; simp only [List.length_cons, List.length_nil]; omega))) (by rw [List.length_append, List.length_append, sizeLine_eq]; simp only [List.length_cons, List.length_nil]; omega) ?_ (by rfl) (by rfl) (by rfl) (by rfl)
      refine x_end (x_turn trivial (by walk_at "Wk") ?_)
      have e : tails1 o q (ms.drop (i + 1)) = ms.drop i :: [(hiI o, q - 1) :: (loI o, q) :: ms.drop (i + 1), (loI o, q) :: ms.drop (i + 1)] := by unfold tails1; rw [if_pos h, ← hdrop]
      rw [hnx, e, ← hD]
      simp [tailsD, pairsD]
    · refine x_end (x_turn trivial (by walk_at "Wk") ?_)
      have e : tails1 o q (ms.drop (i + 1)) = [ms.drop i] := by unfold tails1; rw [if_neg (by rw [h]; decide), ← hdrop]
      rw [hnx, e, ← hD]
      simp [tailsD]
  · intro _
    rw [List.length_map, List.length_range, Int.toNat_natCast, pairsD_length]
    refine x_freeze O (x := Str.ofString "tails") (by rfl) ?_
    refine x_ret_as (by walk_at "Ev") ?_
    rw [tailsN_all ms ms.length (Nat.le_refl _), List.drop_length]
    simp [tailsP]
end
end Mine

end
/-! ## G5 -/
section
open PySem PySem.W PyProof.Rows PySem.Calls
namespace Mine

local macro_rules | `(tactic| walk_at "Op") => `(tactic| with_reducible first
  | exact op_add | exact op_sub | exact op_eq | exact op_ne | exact op_lt | exact op_gt | exact op_le | exact op_ge)
local macro_rules | `(tactic| walk_at "Ev") => `(tactic| first
  | with_reducible exact ev_int
  | with_reducible exact ev_str
  | ((with_reducible refine' ev_local ?O ?a ?b ?c); (case O => assumption); (case a => rfl); (case b => rfl); (case c => decide))
  | ((with_reducible refine' ev_neg ?a); (case a => walk_at "Ev"))
  | ((with_reducible refine' ev_bin ?a ?b ?c); (case a => walk_at "Ev"); (case b => walk_at "Ev"); (case c => walk_at "Op"))
  | ((with_reducible refine' ev_cmp ?a ?b ?c ?d); (case a => walk_at "Ev"); (case b => walk_at "Ev"); (case c => walk_at "Op"); (case d => with_unfolding_all rfl)))
local macro_rules | `(tactic| walk_at "Tr") => `(tactic| ((with_reducible refine' tr_cmp ?a ?b ?c ?d); (case a => walk_at "Ev"); (case b => walk_at "Ev"); (case c => walk_at "Op"); (case d => with_unfolding_all rfl)))
local macro_rules | `(tactic| walk_at "Sz") => `(tactic| (rw [sizeLine_eq]; (try simp only [intsD_length, List.length_cons, List.length_nil]); first | decide | omega | (simp; done) | (simp; omega)))
local macro_rules | `(tactic| walk_at "Wk") => `(tactic| ((repeat refine weak_cons (by rfl) ?_); exact weak_nil))

section
variable {w : World} {loose : List Str} {mg mb : Str → Option Value} {p : Program}

theorem join_one : ∀ l : List Nat, joinL [] (l.map fun n => [n]) = l
  | [] => rfl
  | [a] => rfl
  | a :: b :: r => by
    have := join_one (b :: r)
    rw [List.map_cons, List.map_cons, joinL]
    rw [List.map_cons] at this
    rw [this]; simp

theorem text_does (row : List Int) (hn : row.length ≤ 2 ^ 20) (ho : ∀ o ∈ row, Oct o) : Does PP w (Base (KK w) p loose mg mb) 1 (.ref 121) [.list (intsD row)] (.str (T (row.map Int.toNat))) := by
  refine does1 (k := 0) (x := Str.ofString "row") (by rfl) (by rfl) (by intro v; rfl) (by rfl) (by decide) (by rfl) (by rfl) (by rfl) ?_
  intro A L g s O
  refine x_ret_as (ev_join (xs := (row.map fun o => [o.toNat]).map T) (ev_text (l := []) (by decide)) ?_ (joinOk_T _ _ ?_) (by rfl) (by rfl)) ?_
  · refine ev_as (ev_comp (f := fun i => .str (T [((row[i]?).getD 0).toNat])) O (src_list (by walk_at "Ev")) (elt_name (by intro _; rfl) ?_) (by rw [intsD_length, sizeLine_eq]; omega) (by decide) (by decide) (by rfl) (by decide) (by intro _; rfl)) ?_
    · intro C g s₁ O i d hd mu fx
      obtain ⟨n, hn, rfl⟩ := intsD_get hd
      obtain ⟨h0, h1⟩ := ho n (List.mem_of_getElem? hn)
      rw [hn, Option.getD_some]
      exact ev_call1 (ev_builtin O g_chr (by boot_by_name) (by decide) (by rfl) (by decide)) (by walk_at "Ev") (op_chr h0 (by omega)) (by rfl) (by rfl)
    · congr 1
      rw [intsD_length, List.map_map, List.map_map]
      exact range_map row _ _ fun i a h => by simp [h]
  · rw [sizeLine_eq, List.map_map]
    have : ∀ l : List Int, (l.map ((fun x : List Nat => x.length) ∘ fun o : Int => [o.toNat])).sum = l.length := by
      intro l
      induction l with
      | nil => rfl
      | cons a l ih => rw [List.map_cons, List.sum_cons, ih]; simp; omega
    rw [this]
    simp
    omega
  · rw [join_T]
    have := join_one (row.map Int.toNat)
    rw [List.map_map] at this
    exact congrArg (fun l => D.str (T l)) this
end
end Mine

end
/-! ## G6 -/
section
open PySem PySem.W PyProof.Rows PySem.Calls
namespace Mine

local macro_rules | `(tactic| walk_at "Op") => `(tactic| with_reducible first
  | exact op_add | exact op_sub | exact op_eq | exact op_ne | exact op_lt | exact op_gt | exact op_le | exact op_ge)
local macro_rules | `(tactic| walk_at "Ev") => `(tactic| first
  | with_reducible exact ev_int
  | with_reducible exact ev_str
  | ((with_reducible refine' ev_local ?O ?a ?b ?c); (case O => assumption); (case a => rfl); (case b => rfl); (case c => decide))
  | ((with_reducible refine' ev_neg ?a); (case a => walk_at "Ev"))
  | ((with_reducible refine' ev_bin ?a ?b ?c); (case a => walk_at "Ev"); (case b => walk_at "Ev"); (case c => walk_at "Op"))
  | ((with_reducible refine' ev_cmp ?a ?b ?c ?d); (case a => walk_at "Ev"); (case b => walk_at "Ev"); (case c => walk_at "Op"); (case d => with_unfolding_all rfl)))
local macro_rules | `(tactic| walk_at "Tr") => `(tactic| ((with_reducible refine' tr_cmp ?a ?b ?c ?d); (case a => walk_at "Ev"); (case b => walk_at "Ev"); (case c => walk_at "Op"); (case d => with_unfolding_all rfl)))
local macro_rules | `(tactic| walk_at "Sz") => `(tactic| (rw [sizeLine_eq]; (try simp only [intsD_length, List.length_cons, List.length_nil]); first | decide | omega | (simp; done) | (simp; omega)))
local macro_rules | `(tactic| walk_at "Wk") => `(tactic| ((repeat refine weak_cons (by rfl) ?_); exact weak_nil))

section
variable {w : World} {loose : List Str} {mg mb : Str → Option Value} {p : Program}

def natsD (l : List Nat) : List D := l.map fun n : Nat => D.int (n : Int)
theorem natsD_length (l : List Nat) : (natsD l).length = l.length := by simp [natsD]
theorem natsD_get {l : List Nat} {i n : Nat} (h : l[i]? = some n) : (natsD l)[i]? = some (.int (n : Int)) := by unfold natsD; rw [List.getElem?_map, h]; rfl

/-! ## the table's maker, place by place -/
def Small (T : List Nat) : Prop := ∀ h, 1 ≤ h → h ≤ T.length → ∃ b, T[h - 1]? = some b ∧ b < h
theorem ov_fuel1 {P T : List Nat} {i : Nat} (hT : Small T) : ∀ f idx, idx ≤ f → idx ≤ T.length → ovFall P T i (f + 1) idx = ovFall P T i f idx
  | 0, idx, h, _ => by
    have h0 : idx = 0 := by omega
    subst h0
    rw [ovFall, ovFall]; simp
  | f + 1, idx, h, hl => by
    rw [ovFall]
    conv => rhs; rw [ovFall]
    by_cases h1 : P[i]? = P[idx]?
    · rw [if_pos h1, if_pos h1]
    · rw [if_neg h1, if_neg h1]
      by_cases h0 : idx = 0
      · rw [if_pos h0, if_pos h0]
      · rw [if_neg h0, if_neg h0]
        obtain ⟨b, e, hb⟩ := hT idx (by omega) hl
        rw [e]
        exact ov_fuel1 hT f b (by omega) (by omega)
theorem ov_fuel {P T : List Nat} {i : Nat} (hT : Small T) (idx : Nat) (hl : idx ≤ T.length) : ∀ f, idx ≤ f → ovFall P T i f idx = ovFall P T i idx idx := by
  intro f hf
  induction f with
  | zero => have : idx = 0 := by omega
            subst this; rfl
  | succ f ih =>
    by_cases h : idx = f + 1
    · rw [h]
    · rw [ov_fuel1 hT f idx (by omega) hl]; exact ih (by omega)

def tabN (P : List Nat) : Nat → List Nat
  | 0 => [0]
  | j + 1 => tabN P j ++ [ovFall P (tabN P j) (tabN P j).length (((tabN P j)[(tabN P j).length - 1]?).getD 0) (((tabN P j)[(tabN P j).length - 1]?).getD 0)]
theorem tabN_length (P : List Nat) : ∀ j, (tabN P j).length = j + 1
  | 0 => rfl
  | j + 1 => by rw [tabN, List.length_append, tabN_length P j]; rfl
theorem tabGo_tabN (P : List Nat) : ∀ k j, tabGo P k (tabN P j) = tabN P (j + k)
  | 0, j => rfl
  | k + 1, j => by
    rw [tabGo]
    have := tabGo_tabN P k (j + 1)
    rw [tabN] at this
    rw [this]; congr 1; omega
theorem overlap_tabN {P : List Nat} (h : 0 < P.length) : overlap P = tabN P (P.length - 1) := by
  unfold overlap
  rw [if_neg (by omega)]
  have := tabGo_tabN P (P.length - 1) 0
  rw [Nat.zero_add] at this
  exact this
theorem tabN_ok {P : List Nat} : ∀ j, j < P.length → TabUpTo P (tabN P j) := by
  intro j hj
  have h := tabGo_ok P j (tabN P 0) (by
    intro h h1 h2
    have : h = 1 := by simp [tabN] at h2; omega
    subst this
    exact ⟨0, rfl, by omega, by simp, fun b' hb _ => by omega⟩) (by simp [tabN]) (by simp [tabN]; omega)
  rw [tabGo_tabN, Nat.zero_add] at h
  exact h
theorem tabN_small {P : List Nat} {j : Nat} (hj : j < P.length) : Small (tabN P j) := fun h h1 h2 => by
  obtain ⟨b, e, hb, _⟩ := tabN_ok j hj h h1 h2
  exact ⟨b, e, hb⟩

theorem g_table : nsIn (KK w) mainGlobals (Str.ofString "_generate_overlap_table") = some (some (.ref 57)) := by rfl
theorem str_item {P : List Nat} {i n : Nat} (h : P[i]? = some n) : (seqIndex? (i : Int) P.length).bind (P[·]?) = some n := by
  have hlt : i < P.length := by
    rcases Nat.lt_or_ge i P.length with h1 | h1
    · exact h1
    · rw [List.getElem?_eq_none h1] at h; cases h
  rw [seqIndex_nat hlt]; exact h

theorem table_does (P : List Nat) (h0 : 0 < P.length) (hn : P.length ≤ 2 ^ 20) : Does PP w (Base (KK w) p loose mg mb) 1 (.ref 57) [.str (T P)] (.list (natsD (overlap P))) := by
  refine does1 (k := 0) (x := Str.ofString "prefix") (by rfl) (by rfl) (by intro v; rfl) (by rfl) (by decide) (by rfl) (by rfl) (by rfl) ?_
  intro A L g s O
  refine x_newMul O (n := (P.length : Int)) (fun fx => ev_as (ev_call1 (ev_builtin O g_len (by boot_by_name) (by decide) (by rfl) (by decide)) (by walk_at "Ev") (op_len_str (by rw [T_length]; walk_at "Sz")) (by rfl) (by rfl)) (by rw [T_length])) (by omega) (by omega) (fun a => ?_) (by rfl) (by rfl) (by rfl)
  have start : List.replicate (P.length : Int).toNat (D.int 0) = natsD (tabN P 0 ++ List.replicate (P.length - 1) 0) := by
    rw [Int.toNat_natCast]
    obtain ⟨n, hn⟩ : ∃ n, P.length = n + 1 := ⟨P.length - 1, by omega⟩
    rw [hn, List.replicate_succ]
    simp [natsD, tabN]
  rw [start]
  refine x_for O (fun _ => True) (fun _ => [(Str.ofString "table", .val (.ref a)), (Str.ofString "prefix", .str (T P))])
    (fun j => [(a, false, natsD (tabN P j ++ List.replicate (P.length - 1 - j) 0))]) trivial
    (src_range2 (n := (P.length : Int)) (a := 1) (ev_builtin O g_range (by boot_by_name) (by decide) (by rfl) (by decide)) (by walk_at "Ev") (ev_as (ev_call1 (ev_builtin O g_len (by boot_by_name) (by decide) (by rfl) (by decide)) (by walk_at "Ev") (op_len_str (by rw [T_length]; walk_at "Sz")) (by rfl) (by rfl)) (by rw [T_length])) (by omega) (by omega) (by omega) (by omega) (by rfl) (by rfl) (by rfl) (by rfl))
    (by rfl) ?_ ?_ (by intro _; rfl) (by intro _ _; rfl)
  · intro j d _ hd τ' fx'
    obtain ⟨rfl, hlt⟩ := range_get hd
    have hj : j + 1 < P.length := by omega
    have hlen := tabN_length P j
    have hsm := tabN_small (P := P) (j := j) (by omega)
    have hnx : tabN P (j + 1) = tabN P j ++ [ovFall P (tabN P j) (tabN P j).length (((tabN P j)[(tabN P j).length - 1]?).getD 0) (((tabN P j)[(tabN P j).length - 1]?).getD 0)] := rfl
    generalize tabN P j = Tb at hlen hsm hnx
    have hz : ∃ z, P.length - 1 - j = z + 1 := ⟨P.length - 2 - j, by omega⟩
    obtain ⟨z, hz⟩ := hz
    have hz' : P.length - 1 - (j + 1) = z := by omega
    obtain ⟨b₀, eb₀, hb₀⟩ := hsm (j + 1) (by omega) (by omega)
    rw [hlen, eb₀] at hnx
    simp only [Option.getD_some] at hnx
    have i1 : (1 : Int) + (j : Int) = ((j + 1 : Nat) : Int) := by omega
    rw [i1]
    -- the store that ends the turn
    have put : ∀ v : Nat, (natsD (Tb ++ List.replicate (P.length - 1 - j) 0)).set (((j + 1 : Nat) : Int)).toNat (.int (v : Int)) = natsD (Tb ++ [v] ++ List.replicate z 0) := by
      intro v
      rw [Int.toNat_natCast, hz, List.replicate_succ]
      unfold natsD
      rw [List.map_append, List.set_append_right _ _ (by simp [hlen]), List.length_map, hlen]
      simp
    have item : ∀ {h b : Nat}, 1 ≤ h → h ≤ j + 1 → Tb[h - 1]? = some b → (natsD (Tb ++ List.replicate (P.length - 1 - j) 0))[((h : Int) - 1).toNat]? = some (.int (b : Int)) := by
      intro h b h1 h2 e
      refine natsD_get ?_
      have : ((h : Int) - 1).toNat = h - 1 := by omega
      rw [this, List.getElem?_append_left (by omega)]
      exact e
    refine x_assign O (ev_item_mut (i := ((j + 1 : Nat) : Int) - 1) O (by rfl) (by rfl) (by decide) (by walk_at "Ev") (by omega) (by omega) (item (by omega) (by omega) eb₀) (by intro _ _; rfl)) ?_ (by rfl) (by rfl)
    refine x_weaken (σ' := [(Str.ofString "idx", .int (b₀ : Int)), (Str.ofString "i", .int ((j + 1 : Nat) : Int)), (Str.ofString "table", .val (.ref a)), (Str.ofString "prefix", .str (T P))]) ?_ (by walk_at "Wk")
    have hPi : P[j + 1]? = some P[j + 1] := by simp
    have at_ : ∀ h, h ≤ j → P[h]? = some (P[h]?.getD 0) := by
      intro h hh
      rw [List.getElem?_eq_getElem (by omega)]; rfl
    refine x_while (ι := Nat) (fun idx => idx ≤ j ∧ ovFall P Tb (j + 1) idx idx = ovFall P Tb (j + 1) b₀ b₀) (fun idx => [(Str.ofString "idx", .int (idx : Int)), (Str.ofString "i", .int ((j + 1 : Nat) : Int)), (Str.ofString "table", .val (.ref a)), (Str.ofString "prefix", .str (T P))])
      (fun _ => [(a, false, natsD (Tb ++ List.replicate (P.length - 1 - j) 0))]) (fun idx => idx) (fun idx => decide ([P[j + 1]] ≠ [P[idx]?.getD 0])) b₀ ⟨by omega, rfl⟩ ?_ ?_ ?_
    · rintro idx ⟨hi, _⟩
      exact tr_cmp (ev_sub (by walk_at "Ev") (by walk_at "Ev") (op_item_str (by omega) (by omega) (str_item hPi) (by intro _ _ _; rfl))) (ev_sub (by walk_at "Ev") (by walk_at "Ev") (op_item_str (by omega) (by omega) (str_item (at_ idx hi)) (by intro _ _ _; rfl))) op_ne_str (by with_unfolding_all rfl)
    · rintro idx ⟨hi, hv⟩ hne
      have hne' : ¬ P[j + 1]? = P[idx]? := by
        rw [hPi, at_ idx hi]
        intro q
        have := Option.some.inj q
        simp [this] at hne
      refine x_if (by walk_at "Tr") (fun h => ?_) (fun h => ?_)
      · have hi0 : idx = 0 := by
          have := of_decide_eq_true (p := (idx : Int) = 0) (by simpa using h)
          omega
        subst hi0
        refine x_setitem O (by rfl) (by rfl) (by decide) (by walk_at "Ev") (by walk_at "Ev") (by omega) (by omega) (by rw [natsD_length, List.length_append, List.length_replicate, hlen]; omega) ?_ (by rfl)
        refine x_break fun s' S' => ?_
        have e0 : ovFall P Tb (j + 1) b₀ b₀ = 0 := by
          rw [← hv, ovFall, if_neg hne']
        refine (x_turn (σ := [(Str.ofString "idx", .int ((0 : Nat) : Int)), (Str.ofString "i", .int ((j + 1 : Nat) : Int)), (Str.ofString "table", .val (.ref a)), (Str.ofString "prefix", .str (T P))]) trivial (by walk_at "Wk") ?_) s' S'
        rw [hnx, hz', e0]
        have := put 0
        rw [← this]; rfl
      · have hi0 : idx ≠ 0 := by
          rintro rfl
          simp at h
        obtain ⟨b, eb, hb⟩ := hsm idx (by omega) (by omega)
        refine x_end (x_assign O (ev_item_mut (i := (idx : Int) - 1) O (by rfl) (by rfl) (by decide) (by walk_at "Ev") (by omega) (by omega) (item (by omega) (by omega) eb) (by intro _ _; rfl)) ?_ (by rfl) (by rfl))
        refine x_nil fun s' S' => ⟨b, ⟨by omega, ?_⟩, hb, S'.vars (by walk_at "Wk")⟩
        rw [← hv]
        obtain ⟨f, rfl⟩ : ∃ f, idx = f + 1 := ⟨idx - 1, by omega⟩
        conv => rhs; rw [ovFall, if_neg hne', if_neg hi0, eb, Option.getD_some]
        exact (ov_fuel hsm b (by omega) f (by omega)).symm
    · rintro idx ⟨hi, hv⟩ heq
      have heq' : P[j + 1]? = P[idx]? := by
        rw [hPi, at_ idx hi]
        simpa using heq
      have e0 : ovFall P Tb (j + 1) b₀ b₀ = idx + 1 := by
        rw [← hv]
        cases idx with
        | zero => rw [ovFall, if_pos heq']
        | succ f => rw [ovFall, if_pos heq']
      refine x_setitem O (by rfl) (by rfl) (by decide) (by walk_at "Ev") (by walk_at "Ev") (by omega) (by omega) (by rw [natsD_length, List.length_append, List.length_replicate, hlen]; omega) ?_ (by rfl)
      refine x_end (x_turn trivial (by walk_at "Wk") ?_)
      rw [hnx, hz', e0, ← put (idx + 1)]; rfl
  · intro _
    rw [List.length_map, List.length_range]
    have e : ((P.length : Int) - 1).toNat = P.length - 1 := by omega
    rw [e]
    refine x_freeze O (x := Str.ofString "table") (by rfl) ?_
    refine x_ret_as (by walk_at "Ev") ?_
    rw [overlap_tabN h0]; simp
end
end Mine

end
/-! ## G7 -/
section
open PySem PySem.W PyProof.Rows PySem.Calls
namespace Mine

local macro_rules | `(tactic| walk_at "Op") => `(tactic| with_reducible first
  | exact op_add | exact op_sub | exact op_eq | exact op_ne | exact op_lt | exact op_gt | exact op_le | exact op_ge)
local macro_rules | `(tactic| walk_at "Ev") => `(tactic| first
  | with_reducible exact ev_int
  | with_reducible exact ev_str
  | ((with_reducible refine' ev_local ?O ?a ?b ?c); (case O => assumption); (case a => rfl); (case b => rfl); (case c => decide))
  | ((with_reducible refine' ev_neg ?a); (case a => walk_at "Ev"))
  | ((with_reducible refine' ev_bin ?a ?b ?c); (case a => walk_at "Ev"); (case b => walk_at "Ev"); (case c => walk_at "Op"))
  | ((with_reducible refine' ev_cmp ?a ?b ?c ?d); (case a => walk_at "Ev"); (case b => walk_at "Ev"); (case c => walk_at "Op"); (case d => with_unfolding_all rfl)))
local macro_rules | `(tactic| walk_at "Tr") => `(tactic| ((with_reducible refine' tr_cmp ?a ?b ?c ?d); (case a => walk_at "Ev"); (case b => walk_at "Ev"); (case c => walk_at "Op"); (case d => with_unfolding_all rfl)))
local macro_rules | `(tactic| walk_at "Sz") => `(tactic| (rw [sizeLine_eq]; (try simp only [intsD_length, List.length_cons, List.length_nil]); first | decide | omega | (simp; done) | (simp; omega)))
local macro_rules | `(tactic| walk_at "Wk") => `(tactic| ((repeat refine weak_cons (by rfl) ?_); exact weak_nil))

section
variable {w : World} {loose : List Str} {mg mb : Str → Option Value} {p : Program}

theorem fall_fuel1 {P T : List Nat} {x : Nat} (hT : Small T) : ∀ f h, h ≤ f → h ≤ T.length → fall P T x (f + 1) h = fall P T x f h
  | 0, h, hf, _ => by
    have h0 : h = 0 := by omega
    subst h0
    rw [fall, fall]; simp
  | f + 1, h, hf, hl => by
    rw [fall]
    conv => rhs; rw [fall]
    by_cases h1 : 0 < h ∧ (h = P.length ∨ P[h]? ≠ some x)
    · rw [if_pos h1, if_pos h1]
      obtain ⟨b, e, hb⟩ := hT h h1.1 hl
      rw [e]
      exact fall_fuel1 hT f b (by omega) (by omega)
    · rw [if_neg h1, if_neg h1]
theorem fall_fuel {P T : List Nat} {x : Nat} (hT : Small T) (h : Nat) (hl : h ≤ T.length) : ∀ f, h ≤ f → fall P T x f h = fall P T x h h := by
  intro f hf
  induction f with
  | zero => have : h = 0 := by omega
            subst this; rfl
  | succ f ih =>
    by_cases e : h = f + 1
    · rw [e]
    · rw [fall_fuel1 hT f h (by omega) hl]; exact ih (by omega)
theorem small_of_ok {P : List Nat} {T : List Nat} (ok : TableOk P T) : Small T := fun h h1 h2 => by
  obtain ⟨b, e, hb, _⟩ := ok.2 h h1 (by rw [← ok.1]; exact h2)
  exact ⟨b, e, hb⟩
theorem readAll_cons {P T : List Nat} {x : Nat} {p : Int} {r : List (Nat × Int)} {h : Nat} : readAll P T ((x, p) :: r) h = (if readOne P T h x = P.length then [p] else []) ++ readAll P T r (readOne P T h x) := rfl

theorem cut_two (l : List Nat) (i : Nat) (hi : i ≤ l.length) : cut l (some (i : Int)) (some ((i + 2 : Nat) : Int)) = (l.drop i).take 2 := by
  unfold cut
  simp only [Option.elim]
  rw [clipAt_nat, clipAt_nat, Nat.min_eq_left hi]
  rcases Nat.le_total (i + 2) l.length with h | h
  · rw [Nat.min_eq_left h]; congr 1; omega
  · rw [Nat.min_eq_right h, List.take_of_length_le (by simp), List.take_of_length_le (by simp; omega)]

theorem found_does (l W Tb : List Nat) (ok : TableOk W Tb) (h0 : 0 < W.length) (hW : W.length ≤ 2 ^ 20) (hl : l.length ≤ 2 ^ 20) :
    Does PP w (Base (KK w) p loose mg mb) 1 (.ref 104) [.str (T l), .str (T W), .list (natsD Tb)] (.list (intsD (readAll W Tb (scan l 0) 0))) := by
  refine does3 (k := 0) (x := Str.ofString "letter") (y := Str.ofString "word") (z := Str.ofString "table") (by rfl) (by rfl) (by intro v u t; rfl) (by rfl) (by rfl) (by rfl) (by decide) (by rfl) (by rfl) (by rfl) ?_
  intro A L g s O
  have hTl : Tb.length = W.length := ok.1
  have hsm := small_of_ok ok
  refine x_new O (fun a => ?_) (by rfl) (by rfl)
  refine x_assign O (by walk_at "Ev") ?_ (by rfl) (by rfl)
  refine x_assign O (by walk_at "Ev") ?_ (by rfl) (by rfl)
  refine x_weaken (σ' := [(Str.ofString "place", .int ((0 : Nat) : Int)), (Str.ofString "have", .int ((0 : Nat) : Int)), (Str.ofString "found", .val (.ref a)), (Str.ofString "letter", .str (T l)), (Str.ofString "word", .str (T W)), (Str.ofString "table", .list (natsD Tb))]) ?_ (by walk_at "Wk")
  refine x_while (ι := Nat × Nat × List Int) (fun j => j.1 ≤ l.length ∧ j.2.1 ≤ W.length ∧ j.2.2.length ≤ j.1 ∧ readAll W Tb (scan l 0) 0 = j.2.2 ++ readAll W Tb (scan (l.drop j.1) (j.1 : Int)) j.2.1)
    (fun j => [(Str.ofString "place", .int (j.1 : Int)), (Str.ofString "have", .int (j.2.1 : Int)), (Str.ofString "found", .val (.ref a)), (Str.ofString "letter", .str (T l)), (Str.ofString "word", .str (T W)), (Str.ofString "table", .list (natsD Tb))])
    (fun j => [(a, true, intsD j.2.2)]) (fun j => l.length - j.1) (fun j => decide ((j.1 : Int) < (l.length : Int))) (0, 0, []) (by simp) ?_ ?_ ?_
  · rintro j _
    exact tr_cmp (by walk_at "Ev") (ev_as (ev_call1 (ev_builtin O g_len (by boot_by_name) (by decide) (by rfl) (by decide)) (by walk_at "Ev") (op_len_str (by rw [T_length]; walk_at "Sz")) (by rfl) (by rfl)) (by rw [T_length])) op_lt (by with_unfolding_all rfl)
  · rintro ⟨i, h, fs⟩ ⟨hi, hh, hf, hr⟩ hb
    dsimp only at hi hh hf hr hb ⊢
    have hil : i < l.length := by
      have := of_decide_eq_true hb
      omega
    have hi2 : ((i : Nat) : Int) + 2 = ((i + 2 : Nat) : Int) := by omega
    obtain ⟨x, hx⟩ : ∃ x, l[i]? = some x := ⟨_, List.getElem?_eq_getElem hil⟩
    have hdrop : l.drop i = x :: l.drop (i + 1) := by
      have hg : l[i] = x := by rw [List.getElem?_eq_getElem hil] at hx; exact Option.some.inj hx
      rw [List.drop_eq_getElem_cons hil, hg]
    refine x_if (tr_cmp (ev_as (ev_slice_str (by walk_at "Ev") (pt_some (by walk_at "Ev")) (pt_some (ev_as (by walk_at "Ev") (congrArg D.int hi2))) (by walk_at "Sz") (by intro _ _; rfl)) (by rw [cut_two l i hi])) (ev_text (l := [61, 10]) (by decide)) op_eq_str (by with_unfolding_all rfl)) (fun hs => ?_) (fun hs => ?_)
    · have hs' : (l.drop i).take 2 = [61, 10] := by simpa using hs
      have e2 : l.drop i = 61 :: 10 :: l.drop (i + 2) := by
        have := List.take_append_drop 2 (l.drop i)
        rw [hs', List.drop_drop] at this
        exact this.symm
      have hl2 : i + 2 ≤ l.length := by
        have := congrArg List.length e2
        simp at this; omega
      refine x_aug_add O (by rfl) (by walk_at "Ev") ?_ (by rfl)
      refine x_end (x_nil fun s' S' => ⟨(i + 2, h, fs), ⟨hl2, hh, by dsimp only; omega, ?_⟩, by dsimp only; omega, ?_⟩)
      · rw [hr, e2, scan_soft, hi2]
      · refine S'.vars ?_
        rw [← hi2]
        walk_at "Wk"
    · have hs' : ¬ (l.drop i).take 2 = [61, 10] := by simpa using hs
      have hscan : scan (l.drop i) (i : Int) = (x, (i : Int)) :: scan (l.drop (i + 1)) ((i : Int) + 1) := by
        rw [hdrop]
        refine scan_sign ?_
        rintro ⟨rfl, hh⟩
        refine hs' ?_
        rw [hdrop]
        cases hq : l.drop (i + 1) with
        | nil => rw [hq] at hh; cases hh
        | cons y r => rw [hq] at hh; simp at hh; subst hh; rfl
      refine x_assign O (ev_sub (by walk_at "Ev") (by walk_at "Ev") (op_item_str (by omega) (by omega) (str_item hx) (by intro _ _ _; rfl))) ?_ (by rfl) (by rfl)
      have at_ : ∀ k, k < W.length → W[k]? = some (W[k]?.getD 0) := by
        intro k hk
        rw [List.getElem?_eq_getElem hk]; rfl
      refine x_weaken (σ' := [(Str.ofString "have", .int (h : Int)), (Str.ofString "sign", .str (T [x])), (Str.ofString "place", .int (i : Int)), (Str.ofString "found", .val (.ref a)), (Str.ofString "letter", .str (T l)), (Str.ofString "word", .str (T W)), (Str.ofString "table", .list (natsD Tb))]) ?_ (by walk_at "Wk")
      refine x_while (ι := Nat) (fun k => k ≤ W.length ∧ fall W Tb x k k = fall W Tb x h h) (fun k => [(Str.ofString "have", .int (k : Int)), (Str.ofString "sign", .str (T [x])), (Str.ofString "place", .int (i : Int)), (Str.ofString "found", .val (.ref a)), (Str.ofString "letter", .str (T l)), (Str.ofString "word", .str (T W)), (Str.ofString "table", .list (natsD Tb))])
        (fun _ => [(a, true, intsD fs)]) (fun k => k) (fun k => decide (0 < k ∧ (k = W.length ∨ W[k]? ≠ some x))) h ⟨hh, rfl⟩ ?_ ?_ ?_
      · rintro k ⟨hk, _⟩
        refine tr_as (b' := decide ((0 : Int) < (k : Int)) && ((((k : Int) == (W.length : Int)) || (decide ([W[k]?.getD 0] ≠ [x]) || false)) && true)) (tr_and (by walk_at "Tr") fun _ => tr_and (tr_or (tr_cmp (by walk_at "Ev") (ev_as (ev_call1 (ev_builtin O g_len (by boot_by_name) (by decide) (by rfl) (by decide)) (by walk_at "Ev") (op_len_str (by rw [T_length]; walk_at "Sz")) (by rfl) (by rfl)) (by rw [T_length])) op_eq (by with_unfolding_all rfl)) fun hq => tr_or (tr_cmp (ev_sub (by walk_at "Ev") (by walk_at "Ev") (op_item_str (by omega) (by omega) (str_item (at_ k ?_)) (by intro _ _ _; rfl))) (by walk_at "Ev") op_ne_str (by with_unfolding_all rfl)) fun _ => tr_or_nil) fun _ => tr_and_nil) ?_
        · have hq' : ¬ ((k : Int) = (W.length : Int)) := by simpa using hq
          omega
        · by_cases hkl : k = W.length
          · subst hkl; simp
          · have e := at_ k (by omega)
            rw [e]
            simp only [Option.getD_some, Bool.or_false, Bool.and_true]
            rw [Bool.eq_iff_iff]
            simp only [Bool.and_eq_true, Bool.or_eq_true, decide_eq_true_eq, beq_iff_eq]
            constructor
            · rintro ⟨q1, q2⟩
              refine ⟨by omega, ?_⟩
              rcases q2 with q2 | q2
              · exact absurd q2 (by omega)
              · exact .inr fun q => q2 (by rw [Option.some.inj q])
            · rintro ⟨q1, q2⟩
              refine ⟨by omega, ?_⟩
              rcases q2 with q2 | q2
              · exact absurd q2 hkl
              · exact .inr fun q => q2 (by rw [List.cons.inj q |>.1])
      · rintro k ⟨hk, hv⟩ hb
        have hb' := of_decide_eq_true hb
        obtain ⟨b, eb, hbk⟩ := hsm k hb'.1 (by omega)
        have key : (natsD Tb)[((k : Int) - 1).toNat]? = some (.int (b : Int)) := by
          refine natsD_get ?_
          have : ((k : Int) - 1).toNat = k - 1 := by omega
          rw [this]; exact eb
        refine x_assign O (ev_sub (by walk_at "Ev") (by walk_at "Ev") (op_item (by omega) (by omega) key (by intro _ _; rfl))) ?_ (by rfl) (by rfl)
        refine x_nil fun s' S' => ⟨b, ⟨by omega, ?_⟩, hbk, S'.vars (by walk_at "Wk")⟩
        rw [← hv]
        obtain ⟨f, rfl⟩ : ∃ f, k = f + 1 := ⟨k - 1, by omega⟩
        conv => rhs; rw [fall, if_pos hb', eb]
        exact (fall_fuel hsm b (by omega) f (by omega)).symm
      · rintro k ⟨hk, hv⟩ hb
        have hb' := of_decide_eq_false hb
        have hkl : k < W.length := by
          rcases Nat.lt_or_ge k W.length with q | q
          · exact q
          · exact absurd ⟨by omega, .inl (by omega)⟩ hb'
        have hk0 : fall W Tb x k k = k := by
          cases k with
          | zero => rfl
          | succ f => rw [fall, if_neg hb']
        have hone : readOne W Tb h x = if W[k]? = some x then k + 1 else k := by
          unfold readOne; rw [← hv, hk0]
        refine x_end ?_
        refine x_cut (fun j : Nat => j = readOne W Tb h x) (fun j => [(Str.ofString "have", .int (j : Int)), (Str.ofString "sign", .str (T [x])), (Str.ofString "place", .int (i : Int)), (Str.ofString "found", .val (.ref a)), (Str.ofString "letter", .str (T l)), (Str.ofString "word", .str (T W)), (Str.ofString "table", .list (natsD Tb))]) ?_ ?_
        · refine x_if (tr_cmp (ev_sub (by walk_at "Ev") (by walk_at "Ev") (op_item_str (by omega) (by omega) (str_item (at_ k hkl)) (by intro _ _ _; rfl))) (by walk_at "Ev") op_eq_str (by with_unfolding_all rfl)) (fun q => ?_) (fun q => ?_)
          · refine x_aug_add O (by rfl) (by walk_at "Ev") ?_ (by rfl)
            refine x_end (x_meet (k + 1) ?_ (by walk_at "Wk"))
            rw [hone, if_pos]
            rw [at_ k hkl]
            have := of_decide_eq_true q
            rw [List.cons.inj this |>.1]
          · refine x_end (x_meet k ?_ (by walk_at "Wk"))
            rw [hone, if_neg]
            rw [at_ k hkl]
            have := of_decide_eq_false q
            exact fun z => this (by rw [Option.some.inj z])
        · intro j hj
          have hjl : j ≤ W.length := by rw [hj, hone]; split <;> omega
          have hrd := hr
          rw [hscan, readAll_cons, ← hj] at hrd
          have hi1 : ((i : Nat) : Int) + 1 = ((i + 1 : Nat) : Int) := by omega
          refine x_if (tr_cmp (by walk_at "Ev") (ev_as (ev_call1 (ev_builtin O g_len (by boot_by_name) (by decide) (by rfl) (by decide)) (by walk_at "Ev") (op_len_str (by rw [T_length]; walk_at "Sz")) (by rfl) (by rfl)) (by rw [T_length])) op_eq (by with_unfolding_all rfl)) (fun q => ?_) (fun q => ?_)
          · have q' : j = W.length := by
              have : (j : Int) = (W.length : Int) := by simpa using q
              omega
            refine x_append O (by rfl) (by rfl) (by decide) (by walk_at "Ev") (by walk_at "Sz") ?_ (by rfl) (by rfl) (by rfl) (by rfl)
            refine x_end ?_
            refine x_aug_add O (by rfl) (by walk_at "Ev") ?_ (by rfl)
            refine x_end (x_nil fun s' S' => ⟨(i + 1, j, fs ++ [(i : Int)]), ⟨hil, hjl, by simp; omega, ?_⟩, by dsimp only; omega, ?_⟩)
            · rw [hrd, if_pos q']; dsimp only; rw [hi1, List.append_assoc]
            · have e : intsD (fs ++ [(i : Int)]) = intsD fs ++ [D.int (i : Int)] := by simp [intsD]
              dsimp only
              rw [e]
              refine S'.vars ?_
              rw [← hi1]
              walk_at "Wk"
          · have q' : ¬ j = W.length := by
              have : ¬ (j : Int) = (W.length : Int) := by simpa using q
              omega
            refine x_end ?_
            refine x_aug_add O (by rfl) (by walk_at "Ev") ?_ (by rfl)
            refine x_end (x_nil fun s' S' => ⟨(i + 1, j, fs), ⟨hil, hjl, by dsimp only; omega, ?_⟩, by dsimp only; omega, ?_⟩)
            · rw [hrd, if_neg q']; dsimp only; rw [hi1, List.nil_append]
            · dsimp only
              refine S'.vars ?_
              rw [← hi1]
              walk_at "Wk"
  · rintro ⟨i, h, fs⟩ ⟨hi, hh, hf, hr⟩ hb
    dsimp only at hi hh hf hr hb ⊢
    have hil : i = l.length := by
      have := of_decide_eq_false hb
      omega
    refine x_end ?_
    refine x_freeze O (x := Str.ofString "found") (by rfl) ?_
    refine x_ret_as (by walk_at "Ev") ?_
    rw [hr, hil, List.drop_length, scan_nil]
    simp [readAll]
end
end Mine

end
/-! ## Q4 -/
section
open PySem PySem.W
namespace Mine

/-! ## the encoder's pieces, and the letter -/
def pcs (longest : Int) : Int → List Nat → List Int → List (List Nat)
  | _, cur, [] => [cur]
  | c, cur, o :: r => if brk longest c o r then (cur ++ [61]) :: pcs longest (0 + sizeI o) (enc1 o) r else pcs longest (c + sizeI o) (cur ++ enc1 o) r

theorem pcs_ne (longest : Int) : ∀ (R : List Int) (c : Int) (cur : List Nat), pcs longest c cur R ≠ []
  | [], c, cur => by simp [pcs]
  | o :: r, c, cur => by
    unfold pcs
    split
    · simp
    · exact pcs_ne longest r _ _

theorem joinL_cons {sep x : List Nat} {P : List (List Nat)} (h : P ≠ []) : joinL sep (x :: P) = x ++ sep ++ joinL sep P := by
  cases P with
  | nil => exact absurd rfl h
  | cons y r => rfl
theorem joinL_append {sep : List Nat} : ∀ {P X : List (List Nat)}, P ≠ [] → X ≠ [] → joinL sep (P ++ X) = joinL sep P ++ sep ++ joinL sep X
  | [], _, h, _ => absurd rfl h
  | [x], X, _, hX => by rw [List.singleton_append, joinL_cons hX]; rfl
  | x :: y :: r, X, _, hX => by
    have ih := joinL_append (sep := sep) (P := y :: r) (X := X) (by simp) hX
    have e1 : joinL sep (x :: y :: r) = x ++ sep ++ joinL sep (y :: r) := rfl
    rw [List.cons_append, joinL_cons (by simp), ih, e1]
    simp only [List.append_assoc]

theorem lineI_id : ∀ {M : List Int}, (∀ o ∈ M, o ≠ 10) → lineI M = M
  | [], _ => rfl
  | o :: M, h => by
    have ih := lineI_id (M := M) fun x hx => h x (.tail _ hx)
    unfold lineI at ih ⊢
    rw [List.takeWhile_cons_of_pos (by simpa using h o (.head _)), ih]

theorem join_pcs {longest : Int} {rest : List Int} {W : List Nat} (hr : ∀ c, letGo longest rest c = W) (hl : ∀ M : List Int, (∀ o ∈ M, o ≠ 10) → lineI (M ++ rest) = M) : ∀ (L : List Int) (c : Int) (cur : List Nat), (∀ o ∈ L, o ≠ 10) →
    joinL [10] (pcs longest c cur L) ++ W = cur ++ letGo longest (L ++ rest) c
  | [], c, cur, _ => by rw [List.nil_append, hr]; rfl
  | o :: r, c, cur, h => by
    have hno : ∀ x ∈ r, x ≠ 10 := fun x hx => h x (.tail _ hx)
    have ho : o ≠ 10 := h o (.head _)
    have hb : brk longest c o (r ++ rest) ↔ brk longest c o r := by
      unfold brk
      rw [← List.cons_append, hl (o :: r) h, lineI_id h]
    rw [List.cons_append]
    unfold pcs letGo
    rw [if_neg ho]
    by_cases hbr : brk longest c o r
    · rw [if_pos hbr, if_pos (hb.mpr hbr), joinL_cons (pcs_ne _ _ _ _), List.append_assoc, List.append_assoc, List.append_assoc, join_pcs hr hl r _ _ hno]
      simp
    · rw [if_neg hbr, if_neg (fun z => hbr (hb.mp z)), join_pcs hr hl r _ _ hno]
      simp

/-- the lines of a row -/
def rl : List Int → List Int → List (List Int)
  | cur, [] => if cur = [] then [] else [cur]
  | cur, o :: r => if o = 10 then cur :: rl [] r else rl (cur ++ [o]) r

theorem rl_ne : ∀ (r cur : List Int), (cur ≠ [] ∨ r ≠ []) → rl cur r ≠ []
  | [], cur, h => by
    unfold rl
    rcases h with h | h
    · rw [if_neg h]; simp
    · exact absurd rfl h
  | o :: r, cur, _ => by
    unfold rl
    split
    · simp
    · exact rl_ne r _ (.inl (by simp))

theorem enc1_lf : enc1 10 = [10] := by decide
theorem letGo_lf (longest : Int) (r : List Int) (c : Int) : letGo longest (10 :: r) c = 10 :: letGo longest r 0 := by
  conv => lhs; unfold letGo
  rw [if_pos rfl, enc1_lf]
  have : -1 + sizeI 10 = 0 := by decide
  rw [this]; rfl
theorem lineI_lf (r : List Int) : ∀ M : List Int, (∀ o ∈ M, o ≠ 10) → lineI (M ++ 10 :: r) = M := by
  intro M
  induction M with
  | nil => intro _; simp [lineI]
  | cons o M ih =>
    intro h
    have := ih fun x hx => h x (.tail _ hx)
    unfold lineI at this ⊢
    rw [List.cons_append, List.takeWhile_cons_of_pos (by simpa using h o (.head _)), this]

def ending (row : List Int) : List (List Nat) := if row.getLast? = some 10 then [[]] else []

theorem letter_lines (longest : Int) : ∀ (row L : List Int), (∀ o ∈ L, o ≠ 10) → letGo longest (L ++ row) 0 = joinL [10] ((rl L row).flatMap (pcs longest 0 []) ++ ending (L ++ row))
  | [], L, h => by
    unfold rl
    by_cases hL : L = []
    · subst hL; rfl
    · rw [if_neg hL]
      have e : ending (L ++ []) = [] := by
        unfold ending
        rw [List.append_nil, if_neg]
        intro q
        exact h 10 (List.mem_of_getLast? q) rfl
      rw [e]
      have := join_pcs (longest := longest) (rest := []) (W := []) (fun _ => rfl) (fun M hM => by rw [List.append_nil]; exact lineI_id hM) L 0 [] h
      simpa using this.symm
  | o :: r, L, h => by
    unfold rl
    by_cases ho : o = 10
    · subst ho
      rw [if_pos rfl]
      have j := join_pcs (longest := longest) (rest := 10 :: r) (W := 10 :: letGo longest r 0) (letGo_lf longest r) (lineI_lf r) L 0 [] h
      rw [List.nil_append] at j
      rw [← j]
      have ih := letter_lines longest r [] (by simp)
      rw [List.nil_append] at ih
      rw [List.flatMap_cons, List.append_assoc]
      by_cases hr : r = []
      · subst hr
        have e : ending (L ++ [10]) = [[]] := by unfold ending; simp
        rw [e]
        have : letGo longest [] 0 = [] := rfl
        rw [this]
        unfold rl
        rw [if_pos rfl, List.flatMap_nil, List.nil_append, joinL_append (pcs_ne _ _ _ _) (by simp)]
        simp [joinL]
      · have e : ending (L ++ 10 :: r) = ending r := by
          unfold ending
          cases r with
          | nil => exact absurd rfl hr
          | cons x y => rw [List.getLast?_append, List.getLast?_cons_cons]; simp [List.getLast?_cons]
        have ne : (rl [] r).flatMap (pcs longest 0 []) ++ ending r ≠ [] := by
          obtain ⟨x, y, e⟩ := List.exists_cons_of_ne_nil (rl_ne r [] (.inr hr))
          rw [e, List.flatMap_cons]
          have := pcs_ne longest x 0 []
          simp [this]
        rw [e, joinL_append (pcs_ne _ _ _ _) ne, ← ih]
        simp
    · rw [if_neg ho]
      have ih := letter_lines longest r (L ++ [o]) (by
        intro x hx
        rcases List.mem_append.mp hx with q | q
        · exact h x q
        · rw [List.mem_singleton.mp q]; exact ho)
      rw [List.append_assoc, List.singleton_append] at ih
      exact ih

/-! ### one line, piece by piece -/
theorem longI_cons (o : Int) (r : List Int) : longI (o :: r) = sizeI o + longI r := by simp [longI]
theorem pcs_short {longest : Int} : ∀ (R : List Int) (c : Int) (cur : List Nat), (∀ o ∈ R, o ≠ 10) → c + longI R ≤ longest → pcs longest c cur R = [cur ++ enc R]
  | [], c, cur, _, _ => by simp [pcs, enc]
  | o :: r, c, cur, h, hl => by
    have hno : ∀ x ∈ r, x ≠ 10 := fun x hx => h x (.tail _ hx)
    rw [longI_cons] at hl
    unfold pcs
    have hb : ¬ brk longest c o r := by
      unfold brk
      rw [lineI_id h, longI_cons]
      omega
    rw [if_neg hb, pcs_short r _ _ hno (by omega)]
    simp [enc]
theorem pcs_long {longest : Int} (h4 : 4 ≤ longest) : ∀ (R : List Int) (c : Int) (cur : List Nat), (∀ o ∈ R, o ≠ 10) → c ≤ longest - 1 → longest < c + longI R →
    ∃ R1 o r, R = R1 ++ o :: r ∧ c + longI R1 ≤ longest - 1 ∧ longest ≤ c + longI R1 + sizeI o ∧ pcs longest c cur R = (cur ++ enc R1 ++ [61]) :: pcs longest 0 [] (o :: r)
  | [], c, cur, _, hc, hl => by simp [longI] at hl; omega
  | o :: r, c, cur, h, hc, hl => by
    have hno : ∀ x ∈ r, x ≠ 10 := fun x hx => h x (.tail _ hx)
    by_cases hs : longest ≤ c + sizeI o
    · refine ⟨[], o, r, rfl, by simp [longI]; omega, by simp [longI]; omega, ?_⟩
      have hb : brk longest c o r := by
        unfold brk
        rw [lineI_id h]
        exact ⟨hs, hl⟩
      have hb0 : ¬ brk longest 0 o r := by
        unfold brk
        have := (sizeI_pos o).2
        omega
      conv => lhs; unfold pcs
      conv => rhs; unfold pcs
      rw [if_pos hb, if_neg hb0]
      simp [enc]
    · have hb : ¬ brk longest c o r := by
        unfold brk
        omega
      rw [longI_cons] at hl
      obtain ⟨R1, o', r', e, a1, a2, a3⟩ := pcs_long h4 r (c + sizeI o) (cur ++ enc1 o) hno (by omega) (by omega)
      refine ⟨o :: R1, o', r', by rw [e]; rfl, by rw [longI_cons]; omega, by rw [longI_cons]; omega, ?_⟩
      conv => lhs; unfold pcs
      rw [if_neg hb, a3]
      simp [enc]

theorem enc1_last {o : Int} (h : Oct o) (l : List Nat) : ∃ y, (l ++ enc1 o)[(l ++ enc1 o).length - 1]? = some y ∧ y ≠ 61 := by
  unfold enc1
  cases hw : wideB o with
  | true =>
    have b := loI_bounds h
    refine ⟨(loI o).toNat, by simp, by omega⟩
  | false =>
    have b := narrow_ne hw
    have := h.1
    refine ⟨o.toNat, by simp, by omega⟩
theorem enc_snoc (R : List Int) (o : Int) : enc (R ++ [o]) = enc R ++ enc1 o := by simp [enc]
theorem enc_last {R : List Int} (h : ∀ o ∈ R, Oct o) (hne : R ≠ []) : ∃ y, (enc R)[(enc R).length - 1]? = some y ∧ y ≠ 61 := by
  obtain ⟨R', o, rfl⟩ : ∃ R' o, R = R' ++ [o] := ⟨R.dropLast, R.getLast hne, (List.dropLast_concat_getLast hne).symm⟩
  rw [enc_snoc]
  exact enc1_last (h o (by simp)) _
theorem enc_last2 {R : List Int} (h : ∀ o ∈ R, Oct o) (hne : 2 ≤ (enc R).length) : ∃ y, (enc R)[(enc R).length - 2]? = some y ∧ y ≠ 61 := by
  have hR : R ≠ [] := by rintro rfl; simp [enc] at hne
  obtain ⟨R', o, rfl⟩ : ∃ R' o, R = R' ++ [o] := ⟨R.dropLast, R.getLast hR, (List.dropLast_concat_getLast hR).symm⟩
  rw [enc_snoc] at hne ⊢
  have ho := h o (by simp)
  unfold enc1 at hne ⊢
  cases hw : wideB o with
  | true =>
    have b := hiI_bounds ho
    refine ⟨(hiI o).toNat, by simp, by omega⟩
  | false =>
    rw [hw] at hne
    simp only [Bool.false_eq_true, if_false, List.length_append, List.length_cons, List.length_nil] at hne ⊢
    have hR' : R' ≠ [] := by rintro rfl; simp [enc] at hne
    obtain ⟨y, e, hy⟩ := enc_last (R := R') (fun x hx => h x (by simp [hx])) hR'
    refine ⟨y, ?_, hy⟩
    rw [List.getElem?_append_left (by omega)]
    have : (enc R').length + (0 + 1) - 2 = (enc R').length - 1 := by omega
    rw [this]; exact e

/-! ### the lines of the text -/
def ln : List Nat → List Nat → List (List Nat)
  | cur, [] => if cur = [] then [] else [cur]
  | cur, c :: r => if c = 10 then cur :: ln [] r else ln (cur ++ [c]) r

theorem ln_skip : ∀ (m cur r : List Nat), (∀ c ∈ m, c ≠ 10) → ln cur (m ++ r) = ln (cur ++ m) r
  | [], cur, r, _ => by simp
  | c :: m, cur, r, h => by
    rw [List.cons_append]
    conv => lhs; unfold ln
    rw [if_neg (h c (.head _)), ln_skip m _ r fun x hx => h x (.tail _ hx)]
    simp
theorem enc1_no {o : Int} (h : Oct o) (ho : o ≠ 10) : ∀ c ∈ enc1 o, c ≠ 10 := by
  unfold enc1
  cases hw : wideB o with
  | true =>
    have b1 := hiI_bounds h
    have b2 := loI_bounds h
    intro c hc
    simp at hc
    rcases hc with rfl | rfl | rfl
    · decide
    · omega
    · omega
  | false =>
    have := h.1
    intro c hc
    simp at hc
    omega
theorem enc_nil_iff (R : List Int) : enc R = [] ↔ R = [] := by
  constructor
  · intro h
    cases R with
    | nil => rfl
    | cons o r => exfalso; unfold enc at h; rw [List.flatMap_cons] at h; exact enc1_ne o (List.append_eq_nil_iff.mp h).1
  · rintro rfl; rfl
theorem ln_enc : ∀ (row cur : List Int), (∀ o ∈ row, Oct o) → ln (enc cur) (enc row) = (rl cur row).map enc
  | [], cur, _ => by
    have : enc [] = [] := rfl
    rw [this]
    unfold ln rl
    by_cases h : cur = []
    · rw [if_pos h, if_pos ((enc_nil_iff cur).mpr h)]; rfl
    · rw [if_neg h, if_neg fun z => h ((enc_nil_iff cur).mp z)]; rfl
  | o :: r, cur, h => by
    have hr : ∀ x ∈ r, Oct x := fun x hx => h x (.tail _ hx)
    have e : enc (o :: r) = enc1 o ++ enc r := by simp [enc]
    rw [e]
    conv => rhs; unfold rl
    by_cases ho : o = 10
    · subst ho
      rw [if_pos rfl, enc1_lf, List.singleton_append]
      conv => lhs; unfold ln
      rw [if_pos rfl, List.map_cons]
      have := ln_enc r [] hr
      have e0 : enc [] = [] := rfl
      rw [e0] at this
      rw [this]
    · rw [if_neg ho, ln_skip _ _ _ (enc1_no (h o (.head _)) ho), ← enc_snoc]
      exact ln_enc r _ hr
end Mine

end
/-! ## Q5 -/
section
open PySem PySem.W PySem.Builtin PySem.Builtin.Str PySem.StrLaws
namespace Mine

theorem strSub_T (l : List Nat) (i j : Nat) : strSub (T l) i j = T ((l.drop i).take (j - i)) := by
  refine Str.ext' ?_
  unfold strSub T
  apply Array.toList_inj.mp
  simp [List.take_drop]

def spans (l : List Nat) (ps : List (Nat × Nat × Nat)) : List Str := ps.map fun p => strSub (T l) p.1 p.2.1

theorem linesOf_spans (l : List Nat) : linesOf (T l) = spans l (lineSpans (T l)) := by
  unfold linesOf lineCuts spans
  rw [List.map_map]
  rfl

theorem ls_step (l : List Nat) (h : ∀ c ∈ l, Unicode.isLineBreak c = decide (c = 10)) : ∀ (m cur : Nat) (lines : Array (Nat × Nat × Nat)) (start : Nat), cur + m = l.length → start ≤ cur →
    spans l (lsEnd (T l) (Id.run (forIn (m := Id) (List.range' cur m) ((lines, start) : LsSt) (lsBody (T l))))) = spans l lines.toList ++ (ln ((l.drop start).take (cur - start)) (l.drop cur)).map T
  | 0, cur, lines, start, hm, hs => by
    have hc : cur = l.length := by omega
    subst hc
    rw [List.drop_length]
    unfold ln
    show spans l (lsEnd (T l) (lines, start)) = _
    unfold lsEnd
    dsimp only
    rw [T_length]
    by_cases hlt : start < l.length
    · rw [if_pos hlt, if_neg (by simp; omega)]
      unfold spans
      rw [Array.toList_push, List.map_append]
      simp [strSub_T]
    · rw [if_neg hlt, if_pos (by simp; omega)]
      simp
  | m + 1, cur, lines, start, hm, hs => by
    rw [List.range'_succ, List.forIn_cons]
    have hlt : cur < l.length := by omega
    have hg : (T l).cps.getD cur 0 = l[cur] := by
      unfold T
      simp [Array.getD, hlt]
    have hd : l.drop cur = l[cur] :: l.drop (cur + 1) := List.drop_eq_getElem_cons hlt
    have hbr := h l[cur] (List.getElem_mem hlt)
    rw [hd]
    conv => rhs; unfold ln
    unfold lsBody
    rw [hg, hbr, decide_eq_true hs, Bool.true_and]
    by_cases hc : l[cur] = 10
    · rw [if_pos hc]
      simp only [hc, decide_true, if_true]
      have hnext : lsNext (T l) cur = cur + 1 := by
        unfold lsNext
        rw [hg, hc, if_neg]
        simp
      rw [hnext]
      have ih := ls_step l h m (cur + 1) (lines.push (start, cur, cur + 1)) (cur + 1) (by omega) (Nat.le_refl _)
      refine Eq.trans ih ?_
      unfold spans
      rw [Array.toList_push, List.map_append, Nat.sub_self, List.take_zero]
      simp [strSub_T]
    · rw [if_neg hc]
      simp only [hc, decide_false, Bool.false_eq_true, if_false]
      have ih := ls_step l h m (cur + 1) lines start (by omega) (by omega)
      refine Eq.trans ih ?_
      have e : cur + 1 - start = (cur - start) + 1 := by omega
      have e2 : (l.drop start).take (cur - start + 1) = (l.drop start).take (cur - start) ++ [l[cur]] := by
        rw [List.take_add_one, List.getElem?_drop]
        have : start + (cur - start) = cur := by omega
        rw [this, List.getElem?_eq_getElem hlt]
        rfl
      rw [e, e2]

theorem linesOf_ln (l : List Nat) (h : ∀ c ∈ l, Unicode.isLineBreak c = decide (c = 10)) : linesOf (T l) = (ln [] l).map T := by
  rw [linesOf_spans, ls_eq, T_length]
  have := ls_step l h l.length 0 #[] 0 (by omega) (Nat.le_refl _)
  refine Eq.trans this ?_
  simp [spans]

/-- octets that the encoder leaves on one line -/
def Fine (o : Int) : Prop := Oct o ∧ o ≠ 9 ∧ o ≠ 13 ∧ o ≠ 32
theorem fine_char {o : Int} (h : Fine o) : ∀ c ∈ enc1 o, c = 10 ∨ (33 ≤ c ∧ c ≤ 126) := by
  obtain ⟨ho, h9, h13, h32⟩ := h
  have b1 := hiI_bounds ho
  have b2 := loI_bounds ho
  unfold enc1
  cases hw : wideB o with
  | true =>
    intro c hc
    simp at hc
    rcases hc with rfl | rfl | rfl <;> omega
  | false =>
    intro c hc
    simp at hc
    subst hc
    by_cases h10 : o = 10
    · left; rw [h10]; rfl
    · right
      unfold wideB at hw
      have := ho.1
      simp [h10] at hw
      omega
theorem break_char : ∀ c, c ≤ 126 → (c = 10 ∨ 33 ≤ c) → Unicode.isLineBreak c = decide (c = 10) := by
  intro c h1 h2
  have : ∀ c : Fin 127, (c.val = 10 ∨ 33 ≤ c.val) → Unicode.isLineBreak c.val = decide (c.val = 10) := by decide +kernel
  exact this ⟨c, by omega⟩ h2
theorem enc_chars {row : List Int} (h : ∀ o ∈ row, Fine o) : ∀ c ∈ enc row, c = 10 ∨ (33 ≤ c ∧ c ≤ 126) := by
  intro c hc
  obtain ⟨o, ho, hco⟩ := List.mem_flatMap.mp hc
  exact fine_char (h o ho) c hco
theorem linesOf_enc {row : List Int} (h : ∀ o ∈ row, Fine o) : linesOf (T (enc row)) = ((rl [] row).map enc).map T := by
  rw [linesOf_ln _ fun c hc => break_char c (by have := enc_chars h c hc; omega) (by have := enc_chars h c hc; omega)]
  have := ln_enc row [] fun o ho => (h o ho).1
  have e0 : enc [] = [] := rfl
  rw [e0] at this
  rw [this]
end Mine

end
/-! ## Q6 -/
section
open PySem PySem.W
namespace Mine

theorem enc_cons (o : Int) (r : List Int) : enc (o :: r) = enc1 o ++ enc r := by simp [enc]
theorem enc_append (a b : List Int) : enc (a ++ b) = enc a ++ enc b := by simp [enc]
theorem enc1_le (o : Int) : 1 ≤ (enc1 o).length ∧ (enc1 o).length ≤ 3 := by unfold enc1; split <;> simp
theorem enc_le : ∀ R : List Int, (enc R).length ≤ 3 * R.length
  | [] => by simp [enc]
  | o :: r => by
    have := enc_le r
    have := (enc1_le o).2
    rw [enc_cons, List.length_append, List.length_cons]; omega
theorem pcs_count (longest : Int) : ∀ (R : List Int) (c : Int) (cur : List Nat), (pcs longest c cur R).length ≤ R.length + 1
  | [], c, cur => by simp [pcs]
  | o :: r, c, cur => by
    unfold pcs
    split
    · have := pcs_count longest r (0 + sizeI o) (enc1 o)
      simp only [List.length_cons]; omega
    · have := pcs_count longest r (c + sizeI o) (cur ++ enc1 o)
      simp only [List.length_cons]; omega
theorem lines_count (longest : Int) : ∀ (row cur : List Int), ((rl cur row).flatMap (pcs longest 0 [])).length ≤ cur.length + row.length + 1
  | [], cur => by
    unfold rl
    split
    · simp
    · have := pcs_count longest cur 0 []
      simp; omega
  | o :: r, cur => by
    unfold rl
    split
    · have := lines_count longest r []
      have := pcs_count longest cur 0 []
      rw [List.flatMap_cons, List.length_append]
      simp only [List.length_nil, List.length_cons] at *
      omega
    · have := lines_count longest r (cur ++ [o])
      simp only [List.length_append, List.length_cons, List.length_nil] at *
      omega
theorem pcs_sum (longest : Int) : ∀ (R : List Int) (c : Int) (cur : List Nat), ((pcs longest c cur R).map (·.length)).sum ≤ cur.length + 4 * R.length
  | [], c, cur => by simp [pcs]
  | o :: r, c, cur => by
    have := (enc1_le o).2
    unfold pcs
    split
    · have := pcs_sum longest r (0 + sizeI o) (enc1 o)
      simp only [List.map_cons, List.sum_cons, List.length_cons, List.length_append, List.length_nil]; omega
    · have := pcs_sum longest r (c + sizeI o) (cur ++ enc1 o)
      simp only [List.length_cons, List.length_append] at *; omega
theorem lines_sum (longest : Int) : ∀ (row cur : List Int), (((rl cur row).flatMap (pcs longest 0 [])).map (·.length)).sum ≤ 4 * (cur.length + row.length)
  | [], cur => by
    unfold rl
    split
    · simp
    · have := pcs_sum longest cur 0 []
      simp at *; omega
  | o :: r, cur => by
    unfold rl
    split
    · have := lines_sum longest r []
      have := pcs_sum longest cur 0 []
      rw [List.flatMap_cons, List.map_append, List.sum_append]
      simp only [List.length_nil, List.length_cons] at *
      omega
    · have := lines_sum longest r (cur ++ [o])
      simp only [List.length_append, List.length_cons, List.length_nil] at *
      omega
theorem rl_mem : ∀ (row cur L : List Int), L ∈ rl cur row → (∀ o ∈ L, o ∈ cur ++ row) ∧ ((∀ o ∈ cur, o ≠ 10) → ∀ o ∈ L, o ≠ 10)
  | [], cur, L, h => by
    unfold rl at h
    split at h
    · cases h
    · rw [List.mem_singleton.mp h]; exact ⟨fun o ho => by simpa using ho, fun h => h⟩
  | x :: r, cur, L, h => by
    unfold rl at h
    split at h
    · rcases List.mem_cons.mp h with rfl | h
      · exact ⟨fun o ho => List.mem_append_left _ ho, fun h => h⟩
      · obtain ⟨a, b⟩ := rl_mem r [] L h
        refine ⟨fun o ho => ?_, fun _ => b fun o ho => nomatch ho⟩
        have := a o ho
        simp at this ⊢
        exact .inr (.inr this)
    · rename_i hx
      obtain ⟨a, b⟩ := rl_mem r (cur ++ [x]) L h
      refine ⟨fun o ho => by have := a o ho; simpa using this, fun hc => b fun o ho => ?_⟩
      rcases List.mem_append.mp ho with q | q
      · exact hc o q
      · rw [List.mem_singleton.mp q]; exact hx

theorem wide_enc1 {o : Int} (h : 2 ≤ (enc1 o).length) : ∃ a b, enc1 o = [61, a, b] := by
  unfold enc1 at h ⊢
  cases hw : wideB o with
  | true => exact ⟨_, _, rfl⟩
  | false => rw [hw] at h; simp at h

theorem window {R1 r : List Int} {o : Int} {N : Nat} (hO : ∀ x ∈ R1, Oct x) (h4 : 4 ≤ N) (h1 : (enc R1).length + 1 ≤ N) (h2 : N ≤ (enc R1).length + (enc1 o).length) :
    ∃ y2 y1, (enc (R1 ++ o :: r))[N - 3]? = some y2 ∧ (enc (R1 ++ o :: r))[N - 2]? = some y1 ∧
      ((y2 = 61 ∧ (enc R1).length = N - 3 ∧ (enc (R1 ++ o :: r)).take ((enc R1).length + 1) = enc R1 ++ [61]) ∨
       (y2 ≠ 61 ∧ y1 = 61 ∧ (enc R1).length = N - 2 ∧ (enc (R1 ++ o :: r)).take ((enc R1).length + 1) = enc R1 ++ [61]) ∨
       (y2 ≠ 61 ∧ y1 ≠ 61 ∧ (enc R1).length = N - 1 ∧ (enc (R1 ++ o :: r)).take (enc R1).length = enc R1)) := by
  have h3 := (enc1_le o).2
  rw [enc_append, enc_cons]
  have last : ∀ {y : Nat}, (enc R1)[(enc R1).length - 1]? = some y → 1 ≤ (enc R1).length → (enc R1 ++ (enc1 o ++ enc r))[(enc R1).length - 1]? = some y := by
    intro y e h
    rw [List.getElem?_append_left (by omega)]; exact e
  by_cases c0 : (enc R1).length = N - 1
  · have hne : R1 ≠ [] := by rintro rfl; simp [enc] at c0; omega
    obtain ⟨y1, e1, n1⟩ := enc_last hO hne
    obtain ⟨y2, e2, n2⟩ := enc_last2 hO (by omega)
    refine ⟨y2, y1, ?_, ?_, .inr (.inr ⟨n2, n1, c0, by simp⟩)⟩
    · have : N - 3 = (enc R1).length - 2 := by omega
      rw [this, List.getElem?_append_left (by omega)]; exact e2
    · have : N - 2 = (enc R1).length - 1 := by omega
      rw [this]; exact last e1 (by omega)
  · obtain ⟨a, b, e⟩ := wide_enc1 (o := o) (by omega)
    have tk : (enc R1 ++ (enc1 o ++ enc r)).take ((enc R1).length + 1) = enc R1 ++ [61] := by
      rw [List.take_append, e, List.take_of_length_le (by omega)]; simp
    by_cases c1 : (enc R1).length = N - 2
    · have hne : R1 ≠ [] := by rintro rfl; simp [enc] at c1; omega
      obtain ⟨y2, e2, n2⟩ := enc_last hO hne
      refine ⟨y2, 61, ?_, ?_, .inr (.inl ⟨n2, rfl, c1, tk⟩)⟩
      · have : N - 3 = (enc R1).length - 1 := by omega
        rw [this]; exact last e2 (by omega)
      · rw [← c1, List.getElem?_append_right (Nat.le_refl _), e]; simp
    · have c2 : (enc R1).length = N - 3 := by
        have hl : (enc1 o).length = 3 := by rw [e]; rfl
        omega
      refine ⟨61, a, ?_, ?_, .inl ⟨rfl, c2, tk⟩⟩
      · rw [← c2, List.getElem?_append_right (Nat.le_refl _), e]; simp
      · have : N - 2 = (enc R1).length + 1 := by omega
        rw [this, List.getElem?_append_right (by omega), e]; simp

/-! ### the table -/
def tabC (c : Nat) : List Nat := if c = 9 ∨ c = 13 ∨ c = 32 then [c] else enc1 (c : Int)
def tabS : List Str := (List.range 256).map fun c => T (tabC c)
theorem tabS_get {c : Nat} (h : c < 256) : tabS[c]? = some (T (tabC c)) := by
  unfold tabS
  rw [List.getElem?_map, List.getElem?_range h]; rfl
theorem tabC_le (c : Nat) : (tabC c).length ≤ 3 := by
  unfold tabC
  split
  · simp
  · exact (enc1_le _).2
def natsOf (row : List Int) : List Nat := row.map Int.toNat
theorem tab_enc : ∀ {row : List Int}, (∀ o ∈ row, Fine o) → (natsOf row).flatMap tabC = enc row
  | [], _ => rfl
  | o :: r, h => by
    have ih := tab_enc (row := r) fun x hx => h x (.tail _ hx)
    obtain ⟨⟨h0, h1⟩, h9, h13, h32⟩ := h o (.head _)
    unfold natsOf at ih ⊢
    rw [List.map_cons, List.flatMap_cons, ih, enc_cons]
    congr 1
    unfold tabC
    have e : ((o.toNat : Nat) : Int) = o := Int.toNat_of_nonneg h0
    rw [if_neg (by omega), e]
theorem natsOf_lt {row : List Int} (h : ∀ o ∈ row, Fine o) : ∀ c ∈ natsOf row, c < 256 := by
  intro c hc
  obtain ⟨o, ho, rfl⟩ := List.mem_map.mp hc
  have := (h o ho).1
  have := this.2
  omega

theorem item_last {l : List Nat} {y : Nat} (hne : l ≠ []) (h : l[l.length - 1]? = some y) : (seqIndex? (-1) l.length).bind (l[·]?) = some y := by
  have hp : 0 < l.length := List.length_pos_iff.mpr hne
  have e : seqIndex? (-1) l.length = some (l.length - 1) := by
    unfold seqIndex?
    simp only []
    have : ((-1 : Int) + (l.length : Int)).toNat = l.length - 1 := by omega
    simp
    omega
  rw [e]; exact h

theorem enc_end {row : List Int} (h : ∀ o ∈ row, Fine o) (hne : row ≠ []) : ∃ y, (enc row)[(enc row).length - 1]? = some y ∧ (y ∈ [13, 10] ↔ row.getLast? = some 10) := by
  obtain ⟨R, o, rfl⟩ : ∃ R o, row = R ++ [o] := ⟨row.dropLast, row.getLast hne, (List.dropLast_concat_getLast hne).symm⟩
  have ho := h o (by simp)
  rw [enc_snoc, List.getLast?_concat]
  have h1 := enc1_le o
  have hg : (enc1 o)[(enc1 o).length - 1]? = some (enc1 o)[(enc1 o).length - 1] := List.getElem?_eq_getElem (by omega)
  refine ⟨(enc1 o)[(enc1 o).length - 1], ?_, ?_⟩
  · rw [List.getElem?_append_right (by rw [List.length_append]; omega), List.length_append]
    have : (enc R).length + (enc1 o).length - 1 - (enc R).length = (enc1 o).length - 1 := by omega
    rw [this]; exact hg
  · have hm : (enc1 o)[(enc1 o).length - 1] ∈ enc1 o := List.getElem_mem _
    by_cases h10 : o = 10
    · subst h10
      have e := enc1_lf
      constructor
      · intro _; rfl
      · intro _
        have : (enc1 10)[(enc1 10).length - 1] = 10 := by
          have q : (enc1 10)[(enc1 10).length - 1]? = some 10 := by rw [e]; rfl
          rw [hg] at q; exact Option.some.inj q
        rw [this]; simp
    · have hno := enc1_no ho.1 h10 _ hm
      have hfc := fine_char ho _ hm
      constructor
      · intro q
        simp at q
        rcases q with q | q
        · rw [q] at hfc; omega
        · exact absurd q hno
      · intro q
        exact absurd (Option.some.inj q) h10
end Mine

end
/-! ## G8 -/
section
open PySem PySem.W PyProof.Rows PySem.Calls
namespace Mine

local macro_rules | `(tactic| walk_at "Op") => `(tactic| with_reducible first
  | exact op_add | exact op_sub | exact op_eq | exact op_ne | exact op_lt | exact op_gt | exact op_le | exact op_ge)
local macro_rules | `(tactic| walk_at "Ev") => `(tactic| first
  | with_reducible exact ev_int
  | with_reducible exact ev_str
  | ((with_reducible refine' ev_local ?O ?a ?b ?c); (case O => assumption); (case a => rfl); (case b => rfl); (case c => decide))
  | ((with_reducible refine' ev_neg ?a); (case a => walk_at "Ev"))
  | ((with_reducible refine' ev_bin ?a ?b ?c); (case a => walk_at "Ev"); (case b => walk_at "Ev"); (case c => walk_at "Op"))
  | ((with_reducible refine' ev_cmp ?a ?b ?c ?d); (case a => walk_at "Ev"); (case b => walk_at "Ev"); (case c => walk_at "Op"); (case d => with_unfolding_all rfl)))
local macro_rules | `(tactic| walk_at "Tr") => `(tactic| ((with_reducible refine' tr_cmp ?a ?b ?c ?d); (case a => walk_at "Ev"); (case b => walk_at "Ev"); (case c => walk_at "Op"); (case d => with_unfolding_all rfl)))
local macro_rules | `(tactic| walk_at "Sz") => `(tactic| (rw [sizeLine_eq]; (try simp only [intsD_length, List.length_cons, List.length_nil]); first | decide | omega | (simp; done) | (simp; omega)))
local macro_rules | `(tactic| walk_at "Wk") => `(tactic| ((repeat refine weak_cons (by rfl) ?_); exact weak_nil))

section

variable {w : World} {loose : List Str} {mg mb : Str → Option Value} {p : Program}

theorem g_crlf : ∃ t, nsIn (KK w) mainGlobals (Str.ofString "CRLF") = some (some (.str (Str.ofString "\r\n") t)) := ⟨_, by rfl⟩
theorem g_map : nsIn (KK w) mainGlobals (Str.ofString "_QUOPRI_BODY_ENCODE_MAP") = some (some (.ref 39)) := by rfl
def strOf? : Value → Option Str
  | .str x _ => some x
  | _ => none
theorem strs_of {g : Heap} : ∀ {vs : List Value} {xs : List Str}, vs.map strOf? = xs.map some → IsAll g vs (xs.map D.str)
  | [], [], _ => .nil
  | [], _ :: _, h => nomatch h
  | _ :: _, [], h => nomatch h
  | v :: vs, x :: xs, h => by
    rw [List.map_cons, List.map_cons] at h
    obtain ⟨h1, h2⟩ := List.cons.inj h
    refine .cons ?_ (strs_of h2)
    cases v <;> first | (cases h1; done) | skip
    all_goals first | (obtain rfl := Option.some.inj h1; exact .str _ _) | cases h1
theorem map_at : ∃ oc od items n osl, (KK w).lookup 39 = some ⟨oc, od, .seq items n, osl⟩ ∧ oc = .type "list" ∧ items.toList.map strOf? = tabS.map some := by
  refine ⟨_, _, _, _, _, by with_unfolding_all rfl, rfl, ?_⟩
  decide +kernel
theorem map_is (g : Heap) (h : (KK w).In g) : Is g (.ref 39) (.list (tabS.map D.str)) := by
  obtain ⟨oc, od, items, n, osl, e, hc, hi⟩ := map_at (w := w)
  refine .list (vs := items.toList) ⟨_, h _ _ e, hc, n, by simp⟩ (strs_of hi)

def strsD (P : List (List Nat)) : List D := P.map fun l => D.str (T l)
theorem strsD_append (P X : List (List Nat)) : strsD (P ++ X) = strsD P ++ strsD X := by simp [strsD]
theorem cut_str (l : List Nat) (i j : Nat) (hi : i ≤ l.length) (hj : j ≤ l.length) : cut l (some (i : Int)) (some (j : Int)) = (l.drop i).take (j - i) := by
  unfold cut
  simp only [Option.elim]
  rw [clipAt_nat, clipAt_nat, Nat.min_eq_left hi, Nat.min_eq_left hj]
theorem cut_str1 (l : List Nat) (i : Nat) (hi : i ≤ l.length) : cut l (some (i : Int)) none = l.drop i := by
  unfold cut
  simp only [Option.elim]
  rw [clipAt_nat, Nat.min_eq_left hi, List.take_of_length_le (by simp)]

theorem rl_len : ∀ (row cur M : List Int), M ∈ rl cur row → M.length ≤ cur.length + row.length
  | [], cur, M, h => by
    unfold rl at h
    split at h
    · cases h
    · rw [List.mem_singleton.mp h]; omega
  | o :: r, cur, M, h => by
    unfold rl at h
    split at h
    · rcases List.mem_cons.mp h with rfl | h
      · omega
      · have := rl_len r [] M h
        simp only [List.length_cons, List.length_nil] at *; omega
    · have := rl_len r _ M h
      simp only [List.length_cons, List.length_append, List.length_nil] at *; omega

theorem body_does (row : List Int) (longest : Int) (hf : ∀ o ∈ row, Fine o) (hne : row ≠ []) (h4 : 4 ≤ longest) (hmax : longest ≤ 2 ^ 20) (hn : row.length ≤ 2 ^ 16) (ds : List D)
    (hds : ds = [.str (T (natsOf row)), .int longest] ∨ (ds = [.str (T (natsOf row))] ∧ longest = 76)) : Does PP w (Base (KK w) p loose mg mb) 2 (.ref 50) ds (.str (T (letGo longest row 0))) := by
  have len : ds.length = 1 ∨ ds.length = 2 := by
    rcases hds with rfl | ⟨rfl, _⟩
    · exact .inr rfl
    · exact .inl rfl
  have forms : ∀ vs : List Value, vs.length = ds.length → (∃ v, vs = [v]) ∨ (∃ v u, vs = [v, u]) := by
    intro vs h
    rcases len with l | l
    · rw [l] at h
      exact .inl (List.length_eq_one_iff.mp h)
    · rw [l] at h
      match vs, h with
      | [v, u], _ => exact .inr ⟨v, u, rfl⟩
  refine does_enter (k := 1) (bindsOf := fun vs => [Str.ofString "body", Str.ofString "maxlinelen", Str.ofString "eol"].zip (vs ++ [Value.int 76 1743, Value.str (Str.ofString "\n") 189].drop (vs.length - 1)))
    (σ₀ := [(Str.ofString "eol", .str (T [10])), (Str.ofString "maxlinelen", .int longest), (Str.ofString "body", .str (T (natsOf row)))]) (by rfl) (by rfl) ?_ ?_ ?_ ?_ (by decide) (by rfl) (by rfl) (by rfl)
  · intro s vs X hl
    rcases forms vs hl with ⟨v, rfl⟩ | ⟨v, u, rfl⟩
    · exact binds_K X (by rfl) (by rfl) (by rfl) (by rfl) (by rfl)
    · exact binds_K X (by rfl) (by rfl) (by rfl) (by rfl) (by rfl)
  · intro vs hl y hy
    rcases forms vs hl with ⟨v, rfl⟩ | ⟨v, u, rfl⟩
    · simp at hy
      rcases hy with rfl | rfl | rfl <;> rfl
    · simp at hy
      rcases hy with rfl | rfl | rfl <;> rfl
  · intro g vs X ha
    have hnl : T [10] = Str.ofString "\n" := by decide
    rw [hnl]
    rcases hds with rfl | ⟨rfl, rfl⟩
    · cases ha with
      | cons a b => cases b with | cons b q => cases q; exact Bz.lookup (.cons (.str _ _) (.cons b (.cons a .nil)))
    · cases ha with
      | cons a q => cases q; exact Bz.lookup (.cons (.str _ _) (.cons (.int _ _) (.cons a .nil)))
  · intro A L g s O
    have hne' : natsOf row ≠ [] := by
      cases row with
      | nil => exact absurd rfl hne
      | cons a r => simp [natsOf]
    have hnl : (natsOf row).length = row.length := by simp [natsOf]
    have hel := enc_le row
    have hen : enc row ≠ [] := fun z => hne ((enc_nil_iff row).mp z)
    have hlt := natsOf_lt hf
    refine x_if (b := false) (tr_as (tr_cmp (by walk_at "Ev") (by walk_at "Ev") (by walk_at "Op") (by with_unfolding_all rfl)) (by rw [decide_eq_false_iff_not]; omega)) (fun h => nomatch h) (fun _ => ?_)
    refine x_end ?_
    refine x_if (b := false) (tr_as (tr_not (tr_str (x := natsOf row) (by walk_at "Ev") (by rw [hnl]; walk_at "Sz") (by rfl))) (by simp [hne'])) (fun h => nomatch h) (fun _ => ?_)
    refine x_end ?_
    refine x_assign O (ev_as (ev_translate (f := tabC) (xs := tabS) (x := natsOf row) (by walk_at "Ev") (ev_globalD O g_map map_is (by rfl) (by decide)) hne' (fun c hc => by have := hlt c hc; omega) (by rw [hnl]; walk_at "Sz") (fun c _ => tabC_le c) (fun c hc => tabS_get (hlt c hc)) (by rfl) (by rfl)) (by rw [tab_enc hf])) ?_ (by rfl) (by rfl)
    refine x_assign O (ev_bin (ev_text (l := [61]) (by decide)) (by walk_at "Ev") (op_add_str (by walk_at "Sz"))) ?_ (by rfl) (by rfl)
    refine x_assign O (by walk_at "Ev") ?_ (by rfl) (by rfl)
    refine x_new O (fun a => ?_) (by rfl) (by rfl)
    refine x_bind O (by rfl) (by rfl) (by decide) (by rfl) (fun u => ?_) (by rfl) (by rfl)
    let out : Vars := [(Str.ofString "append", .val (.ref u)), (Str.ofString "encoded_body", .val (.ref a)), (Str.ofString "maxlinelen1", .int (longest - 1)), (Str.ofString "body", .str (T (enc row))), (Str.ofString "eol", .str (T [10])), (Str.ofString "maxlinelen", .int longest)]
    have hout : out = [(Str.ofString "append", .val (.ref u)), (Str.ofString "encoded_body", .val (.ref a)), (Str.ofString "maxlinelen1", .int (longest - 1)), (Str.ofString "body", .str (T (enc row))), (Str.ofString "eol", .str (T [10])), (Str.ofString "maxlinelen", .int longest)] := rfl
    refine x_weaken (σ' := out) ?_ (by rw [hout]; walk_at "Wk")
    have hcount := lines_count longest row []
    have hsum := lines_sum longest row []
    simp only [List.length_nil, Nat.zero_add] at hcount hsum
    have hrl : ∀ L ∈ rl [] row, (∀ o ∈ L, Fine o) ∧ (∀ o ∈ L, o ≠ 10) := fun L hL => by
      obtain ⟨m1, m2⟩ := rl_mem row [] L hL
      exact ⟨fun o ho => hf o (by simpa using m1 o ho), m2 (by simp)⟩
    refine x_forF O (ds := ((rl [] row).map fun M => D.str (T (enc M)))) (fun _ => True) (fun _ => out) (fun i => [(a, true, strsD (((rl [] row).take i).flatMap (pcs longest 0 [])))]) trivial
      (src_list (ev_as (ev_splitlines (x := T (enc row)) O (by rw [hout]; walk_at "Ev") (by rw [T_length]; walk_at "Sz") ?_ (by rfl)) (by rw [linesOf_enc hf]; simp))) (by rfl) ?_ ?_ (by intro _; rfl) (by intro _ _; rfl)
    · have := lineCuts_le (T (enc row))
      rw [T_length] at this
      walk_at "Sz"
    · intro i d _ hd τ' q
      rw [List.getElem?_map] at hd
      obtain ⟨M, hM, rfl⟩ := Option.map_eq_some_iff.mp hd
      obtain ⟨hMf, hM10⟩ := hrl M (List.mem_of_getElem? hM)
      have htake : (rl [] row).take (i + 1) = (rl [] row).take i ++ [M] := by rw [List.take_add_one, hM]; rfl
      have hall : (((rl [] row).take (i + 1)).flatMap (pcs longest 0 [])).length ≤ row.length + 1 := by
        have e : (rl [] row).flatMap (pcs longest 0 []) = ((rl [] row).take (i + 1)).flatMap (pcs longest 0 []) ++ ((rl [] row).drop (i + 1)).flatMap (pcs longest 0 []) := by
          rw [← List.flatMap_append, List.take_append_drop]
        have := congrArg List.length e
        rw [List.length_append] at this
        omega
      rw [htake, List.flatMap_append, List.flatMap_cons, List.flatMap_nil, List.append_nil] at hall ⊢
      generalize ((rl [] row).take i).flatMap (pcs longest 0 []) = base at hall ⊢
      have hMl : (enc M).length ≤ 3 * row.length := by
        have q1 := rl_len row [] M (List.mem_of_getElem? hM)
        have q2 := enc_le M
        simp only [List.length_nil, Nat.zero_add] at q1
        omega
      refine x_assign O (by walk_at "Ev") ?_ (by rfl) (by rfl)
      refine x_assign O (d := .int ((enc M).length - 1 - longest)) (ev_bin (ev_bin (ev_as (ev_call1 (ev_builtin O g_len (by boot_by_name) (by decide) (by rfl) (by decide)) (by walk_at "Ev") (op_len_str (by rw [T_length]; walk_at "Sz")) (by rfl) (by rfl)) (by rw [T_length])) (by walk_at "Ev") op_sub) (by rw [hout]; walk_at "Ev") op_sub) ?_ (by rfl) (by rfl)
      let σw : Nat → Vars := fun st => [(Str.ofString "start", .int (st : Int)), (Str.ofString "laststart", .int ((enc M).length - 1 - longest)), (Str.ofString "line", .str (T (enc M))), (Str.ofString "append", .val (.ref u)), (Str.ofString "encoded_body", .val (.ref a)), (Str.ofString "maxlinelen1", .int (longest - 1)), (Str.ofString "body", .str (T (enc row))), (Str.ofString "eol", .str (T [10])), (Str.ofString "maxlinelen", .int longest)]
      have hσw : ∀ st, σw st = [(Str.ofString "start", .int (st : Int)), (Str.ofString "laststart", .int ((enc M).length - 1 - longest)), (Str.ofString "line", .str (T (enc M))), (Str.ofString "append", .val (.ref u)), (Str.ofString "encoded_body", .val (.ref a)), (Str.ofString "maxlinelen1", .int (longest - 1)), (Str.ofString "body", .str (T (enc row))), (Str.ofString "eol", .str (T [10])), (Str.ofString "maxlinelen", .int longest)] := fun _ => rfl
      refine x_weaken (σ' := σw 0) ?_ (by rw [hσw, hout]; walk_at "Wk")
      refine x_while (ι := Nat × List Int × List (List Nat)) (fun j => (∃ L1, M = L1 ++ j.2.1 ∧ j.1 = (enc L1).length) ∧ j.2.2 ++ pcs longest 0 [] j.2.1 = base ++ pcs longest 0 [] M)
        (fun j => σw j.1) (fun j => [(a, true, strsD j.2.2)]) (fun j => j.2.1.length) (fun j => decide (longest < longI j.2.1)) (0, M, base) ⟨⟨[], rfl, rfl⟩, rfl⟩ ?_ ?_ ?_
      · rintro ⟨st, R, ps⟩ ⟨⟨L1, e1, e2⟩, e3⟩
        dsimp only at e1 e2 e3 ⊢
        refine tr_as (tr_cmp (by rw [hσw]; walk_at "Ev") (by rw [hσw]; walk_at "Ev") op_le (by with_unfolding_all rfl)) ?_
        have := enc_length R
        have : (enc M).length = (enc L1).length + (enc R).length := by rw [e1, enc_append, List.length_append]
        rw [Bool.eq_iff_iff, decide_eq_true_eq, decide_eq_true_eq]
        omega
      · rintro ⟨st, R, ps⟩ ⟨⟨L1, e1, e2⟩, e3⟩ hb
        dsimp only at e1 e2 e3 hb ⊢
        have hb' := of_decide_eq_true hb
        have hR10 : ∀ o ∈ R, o ≠ 10 := fun o ho => hM10 o (by rw [e1]; simp [ho])
        have hRf : ∀ o ∈ R, Fine o := fun o ho => hMf o (by rw [e1]; simp [ho])
        obtain ⟨R1, o, r, eR, b1, b2, b3⟩ := pcs_long h4 R 0 [] hR10 (by omega) (by omega)
        have hlR := enc_length R
        have hlR1 := enc_length R1
        have hlo := enc1_length o
        have hlM : (enc M).length = (enc L1).length + (enc R).length := by rw [e1, enc_append, List.length_append]
        obtain ⟨N, hN⟩ : ∃ N : Nat, longest = (N : Int) := ⟨longest.toNat, by omega⟩
        have hdropM : (enc M).drop st = enc R := by rw [e2, e1, enc_append]; simp
        obtain ⟨y2, y1, g2, g1, cases3⟩ := window (R1 := R1) (r := r) (o := o) (N := N) (fun x hx => (hRf x (by rw [eR]; simp [hx])).1) (by omega) (by omega) (by omega)
        rw [← eR] at g2 g1 cases3
        have at2 : (enc M)[st + (N - 3)]? = some y2 := by rw [← List.getElem?_drop, hdropM]; exact g2
        have at1 : (enc M)[st + (N - 2)]? = some y1 := by rw [← List.getElem?_drop, hdropM]; exact g1
        have hps : ps.length ≤ row.length + 1 := by
          have := congrArg List.length e3
          simp only [List.length_append] at this hall
          omega
        have stop : (st : Int) + (longest - 1) = ((st + (N - 1) : Nat) : Int) := by omega
        refine x_assign O (ev_as (d' := .int ((st : Int) + (longest - 1))) (by rw [hσw]; walk_at "Ev") (congrArg D.int stop)) ?_ (by rfl) (by rfl)
        rw [hσw]
        have hj1 : ∃ L1', M = L1' ++ (o :: r) ∧ st + (enc R1).length = (enc L1').length := ⟨L1 ++ R1, by rw [e1, eR]; simp, by rw [enc_append, List.length_append, e2]⟩
        have hj2 : (ps ++ [enc R1 ++ [61]]) ++ pcs longest 0 [] (o :: r) = base ++ pcs longest 0 [] M := by rw [← e3, b3]; simp
        have hj3 : (o :: r).length < R.length := by
          have hR1 : R1 ≠ [] := by
            rintro rfl
            have := (sizeI_pos o).2
            simp [longI] at b2
            omega
          have := List.length_pos_iff.mpr hR1
          rw [eR, List.length_append]
          omega
        have sl : ∀ m, m ≤ (enc R).length → cut (enc M) (some (st : Int)) (some ((st + m : Nat) : Int)) = (enc R).take m := by
          intro m hm
          rw [cut_str _ _ _ (by omega) (by omega), hdropM]
          congr 1
          omega
        have hsd : strsD ps ++ [D.str (T (enc R1 ++ [61]))] = strsD (ps ++ [enc R1 ++ [61]]) := by simp [strsD]
        have hpl : (strsD ps).length = ps.length := by simp [strsD]
        have i2 : ((st + (N - 1) : Nat) : Int) - 2 = ((st + (N - 3) : Nat) : Int) := by omega
        have i1 : ((st + (N - 1) : Nat) : Int) - 1 = ((st + (N - 2) : Nat) : Int) := by omega
        have hnl1 : (enc R1).length + 1 ≤ (enc R).length := by omega
        refine x_if (tr_cmp (ev_sub (by walk_at "Ev") (ev_as (by walk_at "Ev") (congrArg D.int i2)) (op_item_str (by omega) (by omega) (str_item at2) (by intro _ _ _; rfl))) (ev_text (l := [61]) (by decide)) op_eq_str (by with_unfolding_all rfl)) (fun h => ?_) (fun h => ?_)
        · have hy : y2 = 61 := by simpa using h
          have hn1 : (enc R1).length = N - 3 ∧ (enc R).take ((enc R1).length + 1) = enc R1 ++ [61] := by
            rcases cases3 with ⟨_, q1, q2⟩ | ⟨q, _⟩ | ⟨q, _⟩
            · exact ⟨q1, q2⟩
            · exact absurd hy q
            · exact absurd hy q
          have hcut : cut (enc M) (some (st : Int)) (some ((st + (N - 2) : Nat) : Int)) = enc R1 ++ [61] := by
            rw [sl (N - 2) (by omega), ← hn1.2, hn1.1]
            congr 1
            omega
          refine x_bound O (by rfl) (by rfl) (by decide) (.tail _ (.head _)) (ev_as (ev_slice_str (by walk_at "Ev") (pt_some (by walk_at "Ev")) (pt_some (ev_as (by walk_at "Ev") (congrArg D.int i1))) (by walk_at "Sz") (by intro _ _; rfl)) (by rw [hcut])) (by rw [hpl]; walk_at "Sz") ?_ (by rfl) (by rfl) (by rfl) (by rfl)
          rw [hsd]
          refine x_assign O (ev_as (d := .int ((st + (enc R1).length : Nat) : Int)) (by walk_at "Ev") (congrArg D.int (by omega))) ?_ (by rfl) (by rfl)
          refine x_end (x_nil fun s' S' => ⟨(st + (enc R1).length, o :: r, ps ++ [enc R1 ++ [61]]), ⟨hj1, hj2⟩, hj3, S'.vars ?_⟩)
          walk_at "Wk"
        · have hy : y2 ≠ 61 := by simpa using h
          refine x_if (tr_cmp (ev_sub (by walk_at "Ev") (ev_as (by walk_at "Ev") (congrArg D.int i1)) (op_item_str (by omega) (by omega) (str_item at1) (by intro _ _ _; rfl))) (ev_text (l := [61]) (by decide)) op_eq_str (by with_unfolding_all rfl)) (fun h => ?_) (fun h => ?_)
          · have hy1 : y1 = 61 := by simpa using h
            have hn1 : (enc R1).length = N - 2 ∧ (enc R).take ((enc R1).length + 1) = enc R1 ++ [61] := by
              rcases cases3 with ⟨q, _⟩ | ⟨_, _, q1, q2⟩ | ⟨_, q, _⟩
              · exact absurd q hy
              · exact ⟨q1, q2⟩
              · exact absurd hy1 q
            have hcut : cut (enc M) (some (st : Int)) (some ((st + (N - 1) : Nat) : Int)) = enc R1 ++ [61] := by
              rw [sl (N - 1) (by omega), ← hn1.2, hn1.1]
              congr 1
              omega
            refine x_bound O (by rfl) (by rfl) (by decide) (.tail _ (.head _)) (ev_as (ev_slice_str (by walk_at "Ev") (pt_some (by walk_at "Ev")) (pt_some (by walk_at "Ev")) (by walk_at "Sz") (by intro _ _; rfl)) (by rw [hcut])) (by rw [hpl]; walk_at "Sz") ?_ (by rfl) (by rfl) (by rfl) (by rfl)
            rw [hsd]
            refine x_assign O (ev_as (d := .int ((st + (enc R1).length : Nat) : Int)) (by walk_at "Ev") (congrArg D.int (by omega))) ?_ (by rfl) (by rfl)
            refine x_end (x_end (x_nil fun s' S' => ⟨(st + (enc R1).length, o :: r, ps ++ [enc R1 ++ [61]]), ⟨hj1, hj2⟩, hj3, S'.vars ?_⟩))
            walk_at "Wk"
          · have hy1 : y1 ≠ 61 := by simpa using h
            have hn1 : (enc R1).length = N - 1 ∧ (enc R).take (enc R1).length = enc R1 := by
              rcases cases3 with ⟨q, _⟩ | ⟨_, q, _⟩ | ⟨_, _, q1, q2⟩
              · exact absurd q hy
              · exact absurd q hy1
              · exact ⟨q1, q2⟩
            have hcut : cut (enc M) (some (st : Int)) (some ((st + (N - 1) : Nat) : Int)) = enc R1 := by
              rw [sl (N - 1) (by omega), ← hn1.1]
              exact hn1.2
            refine x_bound O (by rfl) (by rfl) (by decide) (.tail _ (.head _)) (ev_bin (ev_as (ev_slice_str (by walk_at "Ev") (pt_some (by walk_at "Ev")) (pt_some (by walk_at "Ev")) (by walk_at "Sz") (by intro _ _; rfl)) (by rw [hcut])) (ev_text (l := [61]) (by decide)) (op_add_str (by walk_at "Sz"))) (by rw [hpl]; walk_at "Sz") ?_ (by rfl) (by rfl) (by rfl) (by rfl)
            rw [hsd]
            refine x_assign O (ev_as (d := .int ((st + (enc R1).length : Nat) : Int)) (by walk_at "Ev") (congrArg D.int (by omega))) ?_ (by rfl) (by rfl)
            refine x_end (x_end (x_nil fun s' S' => ⟨(st + (enc R1).length, o :: r, ps ++ [enc R1 ++ [61]]), ⟨hj1, hj2⟩, hj3, S'.vars ?_⟩))
            walk_at "Wk"
      · rintro ⟨st, R, ps⟩ ⟨⟨L1, e1, e2⟩, e3⟩ hb
        dsimp only at e1 e2 e3 hb ⊢
        have hb' := of_decide_eq_false hb
        have hR10 : ∀ o ∈ R, o ≠ 10 := fun o ho => hM10 o (by rw [e1]; simp [ho])
        have hlM : (enc M).length = (enc L1).length + (enc R).length := by rw [e1, enc_append, List.length_append]
        have hdropM : (enc M).drop st = enc R := by rw [e2, e1, enc_append]; simp
        have hps : ps.length ≤ row.length + 1 := by
          have := congrArg List.length e3
          simp only [List.length_append] at this hall
          omega
        rw [pcs_short R 0 [] hR10 (by omega), List.nil_append] at e3
        rw [hσw]
        refine x_end ?_
        refine x_if (b := false) (tr_as (tr_and (tr_str (x := enc M) (by walk_at "Ev") (by walk_at "Sz") (by rfl)) fun hl => tr_and (tr_cmp (ev_sub (by walk_at "Ev") (by walk_at "Ev")
            (op_item_str (n := (enc M)[(enc M).length - 1]?.getD 0) (by omega) (by omega) (item_last (of_decide_eq_true hl) ?_) (by intro _ _ _; rfl))) (ev_text (l := [32, 9]) (by decide)) op_in_str (by with_unfolding_all rfl)) fun _ => tr_and_nil) ?_) (fun h => nomatch h) (fun _ => ?_)
        · have hpos : 0 < (enc M).length := List.length_pos_iff.mpr (of_decide_eq_true hl)
          rw [List.getElem?_eq_getElem (by omega)]; rfl
        · by_cases hM0 : enc M = []
          · simp [hM0]
          · have hpos : 0 < (enc M).length := List.length_pos_iff.mpr hM0
            have hg : (enc M)[(enc M).length - 1]? = some (enc M)[(enc M).length - 1] := List.getElem?_eq_getElem (by omega)
            have hch := enc_chars hMf _ (List.getElem_mem (l := enc M) (n := (enc M).length - 1) (by omega))
            rw [hg]
            generalize (enc M)[(enc M).length - 1] = y at hch
            simp
            omega
        have hpl : (strsD ps).length = ps.length := by simp [strsD]
        refine x_bound O (by rfl) (by rfl) (by decide) (.tail _ (.head _)) (ev_as (ev_slice_str (by walk_at "Ev") (pt_some (by walk_at "Ev")) pt_none (by walk_at "Sz") (by intro _ _; rfl)) (by rw [cut_str1 _ _ (by omega), hdropM])) (by rw [hpl]; walk_at "Sz") ?_ (by rfl) (by rfl) (by rfl) (by rfl)
        refine x_end (x_turn trivial (by rw [hout]; walk_at "Wk") ?_)
        rw [← e3]; simp [strsD]
    · intro _
      rw [List.length_map, List.take_length]
      have hlet := letter_lines longest row [] (by simp)
      rw [List.nil_append] at hlet
      generalize (rl [] row).flatMap (pcs longest 0 []) = all at hlet hcount hsum
      obtain ⟨y, ey, hy⟩ := enc_end hf hne
      obtain ⟨tc, gc⟩ := g_crlf (w := w)
      have hal : (strsD all).length = all.length := by simp [strsD]
      have back : ∀ X : List (List Nat), strsD X = (X.map T).map D.str := fun X => by simp [strsD]
      rw [hout]
      refine x_if (tr_cmp (ev_sub (by walk_at "Ev") (by walk_at "Ev") (op_item_str (by omega) (by omega) (item_last hen ey) (by intro _ _ _; rfl))) (ev_as (ev_globalD (d := .str (Str.ofString "\r\n")) O gc (fun g _ => .str _ _) (by rfl) (by decide)) (congrArg D.str (by decide : Str.ofString "\r\n" = T [13, 10]))) op_in_str (by with_unfolding_all rfl)) (fun h => ?_) (fun h => ?_)
      · have h10 := hy.mp (of_decide_eq_true h)
        have e : ending row = [[]] := by unfold ending; rw [if_pos h10]
        rw [e] at hlet
        refine x_bound O (by rfl) (by rfl) (by decide) (.head _) (ev_text (l := []) (by decide)) (by rw [hal]; walk_at "Sz") ?_ (by rfl) (by rfl) (by rfl) (by rfl)
        refine x_end ?_
        have e2 : strsD all ++ [D.str (T [])] = strsD (all ++ [[]]) := by simp [strsD]
        rw [e2]
        refine x_freeze O (x := Str.ofString "encoded_body") (by rfl) ?_
        refine x_ret_as (ev_join (sep := T [10]) (xs := (all ++ [[]]).map T) (by walk_at "Ev") (ev_as (by walk_at "Ev") (congrArg D.list (back _))) (joinOk_T [10] _ ?_) (by rfl) (by rfl)) ?_
        · rw [List.map_append, List.sum_append]
          simp only [List.length_append, List.length_cons, List.length_nil, List.map_cons, List.map_nil, List.sum_cons, List.sum_nil]
          walk_at "Sz"
        · rw [join_T, hlet]
      · have h10 : ¬ row.getLast? = some 10 := fun z => (of_decide_eq_false h) (hy.mpr z)
        have e : ending row = [] := by unfold ending; rw [if_neg h10]
        rw [e, List.append_nil] at hlet
        refine x_end ?_
        refine x_freeze O (x := Str.ofString "encoded_body") (by rfl) ?_
        refine x_ret_as (ev_join (sep := T [10]) (xs := all.map T) (by walk_at "Ev") (ev_as (by walk_at "Ev") (congrArg D.list (back _))) (joinOk_T [10] _ ?_) (by rfl) (by rfl)) ?_
        · simp only [List.length_cons, List.length_nil]
          walk_at "Sz"
        · rw [join_T, hlet]
end
end Mine

end
/-! ## G9 -/
section
open PySem PySem.W PyProof.Rows PySem.Calls
namespace Mine

local macro_rules | `(tactic| walk_at "Op") => `(tactic| with_reducible first
  | exact op_add | exact op_sub | exact op_eq | exact op_ne | exact op_lt | exact op_gt | exact op_le | exact op_ge)
local macro_rules | `(tactic| walk_at "Ev") => `(tactic| first
  | with_reducible exact ev_int
  | with_reducible exact ev_str
  | ((with_reducible refine' ev_local ?O ?a ?b ?c); (case O => assumption); (case a => rfl); (case b => rfl); (case c => decide))
  | ((with_reducible refine' ev_neg ?a); (case a => walk_at "Ev"))
  | ((with_reducible refine' ev_bin ?a ?b ?c); (case a => walk_at "Ev"); (case b => walk_at "Ev"); (case c => walk_at "Op"))
  | ((with_reducible refine' ev_cmp ?a ?b ?c ?d); (case a => walk_at "Ev"); (case b => walk_at "Ev"); (case c => walk_at "Op"); (case d => with_unfolding_all rfl)))
local macro_rules | `(tactic| walk_at "Tr") => `(tactic| ((with_reducible refine' tr_cmp ?a ?b ?c ?d); (case a => walk_at "Ev"); (case b => walk_at "Ev"); (case c => walk_at "Op"); (case d => with_unfolding_all rfl)))
local macro_rules | `(tactic| walk_at "Sz") => `(tactic| (rw [sizeLine_eq]; (try simp only [intsD_length, List.length_cons, List.length_nil]); first | decide | omega | (simp; done) | (simp; omega)))
local macro_rules | `(tactic| walk_at "Wk") => `(tactic| ((repeat refine weak_cons (by rfl) ?_); exact weak_nil))

section

variable {w : World} {loose : List Str} {mg mb : Str → Option Value} {p : Program}

theorem g_kept : nsIn (KK w) mainGlobals (Str.ofString "_law_kept") = some (some (.ref 111)) := by rfl
theorem g_min : nsIn (KK w) mainGlobals (Str.ofString "min") = some none := by rfl

def keptI (n : Int) : Int := if [9, 10, 13, 32].any (· == n) then 61 else n
theorem kept_does (n : Int) : Does PP w (Base (KK w) p loose mg mb) 1 (.ref 111) [.int n] (.int (keptI n)) := by
  refine does1 (k := 0) (x := Str.ofString "octet") (by rfl) (by rfl) (by intro v; rfl) (by rfl) (by decide) (by rfl) (by rfl) (by rfl) ?_
  intro A L g s O
  refine x_ret (ev_if (tr_cmp (by walk_at "Ev") (ev_tuple (ds := intsD [9, 10, 13, 32]) O (evl_cons ev_int (evl_cons ev_int (evl_cons ev_int (evl_cons ev_int evl_nil (by rfl)) (by rfl)) (by rfl)) (by rfl)) (by walk_at "Sz")) op_in_tup (by with_unfolding_all rfl)) (fun h => ev_as ev_int ?_) (fun h => ev_as (by walk_at "Ev") ?_))
  · unfold keptI; rw [if_pos h]
  · unfold keptI; rw [if_neg (by rw [h]; decide)]
theorem kept_fine {n : Int} (h : Oct n) : Fine (keptI n) := by
  unfold keptI
  split
  · exact ⟨⟨by decide, by decide⟩, by decide, by decide, by decide⟩
  · rename_i q
    simp at q
    obtain ⟨q1, q2, q3, q4⟩ := q
    exact ⟨h, fun e => q1 e.symm, fun e => q3 e.symm, fun e => q4 e.symm⟩
theorem kept_ne {n : Int} : keptI n ≠ 10 := by
  unfold keptI
  split
  · decide
  · rename_i q
    simp at q
    exact fun e => q.2.1 e.symm

def oct1 (ns : List Int) : Int := keptI ((233 + ns.sum).fmod 256)
def oth (ns : List Int) : Int := keptI ((234 + ns.sum).fmod 256)
def fiveOf (ns : List Int) : List Int := [oct1 ns, hiI (oct1 ns), loI (oct1 ns), 10, oth ns]
def idx5 (ns : List Int) (i : Nat) : Int := (pick ns (some (i : Int)) none (some 8)).sum.fmod 5
def elt5 (ns : List Int) (i : Nat) : Int := ((fiveOf ns)[(idx5 ns i).toNat]?).getD 0
def cnt (ns : List Int) : Nat := if ns.length < 8 then ns.length else 8
def rowOf (ns : List Int) : List Int := (List.range (cnt ns)).map (elt5 ns) ++ [hiI (oct1 ns), loI (oct1 ns), oct1 ns, 10, hiI (oct1 ns), loI (oct1 ns), oct1 ns, oct1 ns, oth ns]

theorem oct_fmod (a : Int) : Oct (a.fmod 256) := by
  have e : a.fmod 256 = a % 256 := Int.fmod_eq_emod_of_nonneg _ (by decide)
  rw [e]
  exact ⟨by omega, by omega⟩
theorem oct1_fine (ns : List Int) : Fine (oct1 ns) := kept_fine (oct_fmod _)
theorem oth_fine (ns : List Int) : Fine (oth ns) := kept_fine (oct_fmod _)
theorem idx5_lt (ns : List Int) (i : Nat) : 0 ≤ idx5 ns i ∧ idx5 ns i < 5 := by
  unfold idx5
  rw [Int.fmod_eq_emod_of_nonneg _ (by decide)]
  omega
theorem elt5_get (ns : List Int) (i : Nat) : (fiveOf ns)[(idx5 ns i).toNat]? = some (elt5 ns i) := by
  have h := idx5_lt ns i
  unfold elt5
  rw [List.getElem?_eq_getElem (by show _ < 5; omega)]
  rfl
theorem fine_hi {o : Int} (h : Oct o) : Fine (hiI o) := by
  have := hiI_bounds h
  exact ⟨⟨by omega, by omega⟩, by omega, by omega, by omega⟩
theorem fine_lo {o : Int} (h : Oct o) : Fine (loI o) := by
  have := loI_bounds h
  exact ⟨⟨by omega, by omega⟩, by omega, by omega, by omega⟩
theorem fine_lf : Fine 10 := ⟨⟨by decide, by decide⟩, by decide, by decide, by decide⟩
theorem five_fine (ns : List Int) : ∀ o ∈ fiveOf ns, Fine o := by
  intro o ho
  have h1 := oct1_fine ns
  have h2 := oth_fine ns
  unfold fiveOf at ho
  simp at ho
  rcases ho with rfl | rfl | rfl | rfl | rfl
  · exact h1
  · exact fine_hi h1.1
  · exact fine_lo h1.1
  · exact fine_lf
  · exact h2
theorem row_fine (ns : List Int) : ∀ o ∈ rowOf ns, Fine o := by
  intro o ho
  have h1 := oct1_fine ns
  have h2 := oth_fine ns
  unfold rowOf at ho
  rcases List.mem_append.mp ho with q | q
  · obtain ⟨i, _, rfl⟩ := List.mem_map.mp q
    exact five_fine ns _ (List.mem_of_getElem? (elt5_get ns i))
  · simp only [List.mem_cons, List.not_mem_nil, or_false] at q
    rcases q with rfl | rfl | rfl | rfl | rfl | rfl | rfl | rfl | rfl
    · exact fine_hi h1.1
    · exact fine_lo h1.1
    · exact h1
    · exact fine_lf
    · exact fine_hi h1.1
    · exact fine_lo h1.1
    · exact h1
    · exact h1
    · exact h2
theorem row_ne (ns : List Int) : rowOf ns ≠ [] := by unfold rowOf; simp
theorem row_len (ns : List Int) : (rowOf ns).length ≤ 17 := by
  unfold rowOf cnt
  simp only [List.length_append, List.length_map, List.length_range, List.length_cons, List.length_nil]
  split <;> omega

theorem row_does (ns : List Int) (hn : ns.length ≤ 63) : Does PP w (Base (KK w) p loose mg mb) 3 (.ref 116) [.list (intsD ns)] (.list (intsD (rowOf ns))) := by
  refine does_cells (k := 2) (x := Str.ofString "script") (y := Str.ofString "five") (by rfl) (by rfl) (by intro v; rfl) (by rfl) (by intro n; rfl) (by decide) (by decide) ?_ (by rfl) (by rfl) (by rfl)
  intro A L g s v o₁ o₂ O hv h1 h2
  refine x_assign O (d := .int (oct1 ns)) (ev_callDef O (ev_global O g_kept (by rfl) (by decide)) (by rfl) (evl_cons (ev_bin (ev_bin ev_int (ev_call1 (ev_builtin O g_sum (by boot_by_name) (by decide) (by rfl) (by decide)) (ev_cell O (by rfl) (by rfl) (.tail _ (.head _)) h1 hv (by decide)) (op_sum O) (by rfl) (by rfl)) op_add) ev_int (op_mod (by decide) (PyProof.noPylong_small (by decide)))) evl_nil (by rfl)) (kept_does _) (by decide) (by rfl) (by rfl) (by rfl)) ?_ (by rfl) (by rfl)
  refine x_assign O (d := .int (oth ns)) (ev_callDef O (ev_global O g_kept (by rfl) (by decide)) (by rfl) (evl_cons (ev_bin (ev_bin ev_int (ev_call1 (ev_builtin O g_sum (by boot_by_name) (by decide) (by rfl) (by decide)) (ev_cell O (by rfl) (by rfl) (.tail _ (.head _)) h1 hv (by decide)) (op_sum O) (by rfl) (by rfl)) op_add) ev_int (op_mod (by decide) (PyProof.noPylong_small (by decide)))) evl_nil (by rfl)) (kept_does _) (by decide) (by rfl) (by rfl) (by rfl)) ?_ (by rfl) (by rfl)
  refine x_assign_cell O (d := .list (intsD (fiveOf ns))) (ev_as (ev_bin (ev_bin (ev_list O (evl_cons (ev_local O (by rfl) (by rfl) (by decide)) evl_nil (by rfl)) (by walk_at "Sz")) (ev_callDef O (ev_global O g_figures (by rfl) (by decide)) (by rfl) (evl_cons (by walk_at "Ev") evl_nil (by rfl)) (figures_does (oct1_fine ns).1) (by decide) (by rfl) (by rfl) (by rfl)) (op_add_list O (by walk_at "Sz")))
    (ev_list O (evl_cons ev_int (evl_cons (by walk_at "Ev") evl_nil (by rfl)) (by rfl)) (by walk_at "Sz")) (op_add_list O (by simp only [List.length_append]; walk_at "Sz"))) (by rfl)) h2 (by rfl) (by rfl) ?_ (by rfl)
  intro g₁ v5 o' hg₁ hv5 ho'
  have O' := O.up (g := g₁)
  have hv1 := hv.keeps hg₁
  refine x_assign_compF O' (f := fun i => D.int (elt5 ns i)) (src_range1 (n := (cnt ns : Int)) (ev_builtin O' g_range (by boot_by_name) (by decide) (by rfl) (by decide))
      (ev_as (ev_call2 (ev_builtin O' g_min (by boot_by_name) (by decide) (by rfl) (by decide)) ev_int (ev_call1 (ev_builtin O' g_len (by boot_by_name) (by decide) (by rfl) (by decide)) (ev_cell O' (by rfl) (by rfl) (.tail _ (.head _)) h1 hv1 (by decide)) (op_len_list (by rw [intsD_length]; walk_at "Sz")) (by rfl) (by rfl)) (op_min O') (by rfl) (by rfl) (by rfl) (by rfl)) ?_) (by omega) (by unfold cnt; split <;> omega) (by rfl) (by rfl))
    (eltF_name (by intro C; rfl) ?_) ?_ ?_ (by rfl) (by rfl) (by rfl) (by decide) (by rfl) (by decide) (by intro _; rfl)
  · rw [intsD_length]
    unfold cnt
    congr 1
    split <;> split <;> omega
  · intro C g₂ s₂ O₂ hg₂ hf i d hd mu' fx'
    obtain ⟨rfl, hlt⟩ := range_get hd
    have hb := idx5_lt ns i
    have hget : (intsD (fiveOf ns))[(idx5 ns i).toNat]? = some (.int (elt5 ns i)) := by
      unfold intsD
      rw [List.getElem?_map, elt5_get]; rfl
    refine ev_sub (ev_cell0 O₂ (by rfl) (by rfl) (hf _ (.head _)) ho' (hv5.keeps hg₂) (by decide)) (ev_bin (ev_call1 (ev_builtin O₂ g_sum (by boot_by_name) (by decide) (by rfl) (by decide))
      (ev_as (ev_slice_step O₂ (ev_cell0 O₂ (by rfl) (by rfl) (hf _ (.tail _ (.head _))) h1 (hv1.keeps hg₂) (by decide)) (pt_some (by walk_at "Ev")) pt_none ev_int (by decide) (by rw [intsD_length]; walk_at "Sz") (by intro _ _; rfl)) (congrArg D.list (pick_ints _ _ _ _)))
      (op_sum O₂) (by rfl) (by rfl)) ev_int (op_mod (by decide) (PyProof.noPylong_small (by decide)))) (op_item hb.1 (by have := hb.2; unfold idx5 at this; omega) hget (by intro _ _; rfl))
  · rw [List.length_map, List.length_range]
    have : cnt ns ≤ 8 := by unfold cnt; split <;> omega
    walk_at "Sz"
  · rw [List.length_map, List.length_range, Int.toNat_natCast]
    have e1 : (intsD (fiveOf ns))[(1 : Int).toNat]? = some (.int (hiI (oct1 ns))) := rfl
    have e2 : (intsD (fiveOf ns))[(2 : Int).toNat]? = some (.int (loI (oct1 ns))) := rfl
    refine x_ret_as (ev_bin (by walk_at "Ev") (ev_list O' (evl_cons (ev_sub (ev_cell O' (by rfl) (by rfl) (.head _) ho' hv5 (by decide)) ev_int (op_item (by decide) (by decide) e1 (by intro _ _; rfl)))
      (evl_cons (ev_sub (ev_cell O' (by rfl) (by rfl) (.head _) ho' hv5 (by decide)) ev_int (op_item (by decide) (by decide) e2 (by intro _ _; rfl)))
      (evl_cons (by walk_at "Ev") (evl_cons ev_int
      (evl_cons (ev_sub (ev_cell O' (by rfl) (by rfl) (.head _) ho' hv5 (by decide)) ev_int (op_item (by decide) (by decide) e1 (by intro _ _; rfl)))
      (evl_cons (ev_sub (ev_cell O' (by rfl) (by rfl) (.head _) ho' hv5 (by decide)) ev_int (op_item (by decide) (by decide) e2 (by intro _ _; rfl)))
      (evl_cons (by walk_at "Ev") (evl_cons (by walk_at "Ev") (evl_cons (by walk_at "Ev") evl_nil (by rfl)) (by rfl)) (by rfl)) (by rfl)) (by rfl)) (by rfl)) (by rfl)) (by rfl)) (by rfl)) (by walk_at "Sz")) (op_add_list O' ?_)) ?_
    · have : cnt ns ≤ 8 := by unfold cnt; split <;> omega
      simp only [List.length_map, List.length_range]
      walk_at "Sz"
    · unfold rowOf
      simp [intsD]
end
end Mine

end
/-! ## G10 -/
section
open PySem PySem.W PyProof.Rows PySem.Calls
namespace Mine

/-! ## the plain side of the law -/
theorem markGo_len (longest : Int) (row : List Int) (p c : Int) : (markGo longest row p c).length = row.length := by
  have := congrArg List.length (markGo_fst longest row p c)
  simpa using this
theorem tailsP_mem : ∀ ms : List (Int × Int), (∀ m ∈ ms, Fine m.1) → ∀ t ∈ tailsP ms, t ≠ [] ∧ t.length ≤ ms.length + 1 ∧ ∀ m ∈ t, Fine m.1
  | [], _, t, ht => nomatch ht
  | (o, p) :: r, h, t, ht => by
    have hr : ∀ m ∈ r, Fine m.1 := fun m hm => h m (.tail _ hm)
    have ho : Fine o := h (o, p) (.head _)
    unfold tailsP at ht
    rcases List.mem_append.mp ht with q | q
    · unfold tails1 at q
      rcases List.mem_cons.mp q with rfl | q
      · exact ⟨by simp, by simp, h⟩
      · split at q
        · rcases List.mem_cons.mp q with rfl | q
          · refine ⟨by simp, by simp, fun m hm => ?_⟩
            rcases List.mem_cons.mp hm with rfl | hm
            · exact fine_hi ho.1
            · rcases List.mem_cons.mp hm with rfl | hm
              · exact fine_lo ho.1
              · exact hr m hm
          · rw [List.mem_singleton.mp q]
            refine ⟨by simp, by simp, fun m hm => ?_⟩
            rcases List.mem_cons.mp hm with rfl | hm
            · exact fine_lo ho.1
            · exact hr m hm
        · cases q
    · obtain ⟨a, b, c⟩ := tailsP_mem r hr t q
      exact ⟨a, by simp only [List.length_cons]; omega, c⟩
theorem tailsP_count : ∀ ms : List (Int × Int), (tailsP ms).length ≤ 3 * ms.length ∧ (ms ≠ [] → 0 < (tailsP ms).length)
  | [] => ⟨Nat.le_refl _, fun h => absurd rfl h⟩
  | (o, p) :: r => by
    have ih := (tailsP_count r).1
    unfold tailsP tails1
    constructor
    · rw [List.length_append]
      simp only [List.length_cons]
      split <;> simp <;> omega
    · intro _
      simp
theorem dueOf_count (word : List Int) : ∀ ts : List (List (Int × Int)), (dueOf word ts).length ≤ ts.length
  | [] => Nat.le_refl _
  | t :: ts => by
    have ih := dueOf_count word ts
    unfold dueOf at ih ⊢
    rw [List.flatMap_cons, List.length_append]
    have : (due1 word t).length ≤ 1 := by
      unfold due1
      split
      · cases t[word.length - 1]? <;> simp
      · simp
    simp only [List.length_cons]
    omega
theorem longI_line : ∀ l : List Int, longI (lineI l) ≤ longI l
  | [] => Int.le_refl _
  | o :: r => by
    have ih := longI_line r
    have hp := (sizeI_pos o).1
    have h0 : ∀ l : List Int, 0 ≤ longI l := by
      intro l
      rw [← enc_length]
      omega
    unfold lineI at ih ⊢
    by_cases h : o = 10
    · subst h
      rw [List.takeWhile_cons_of_neg (by simp)]
      have := h0 (10 :: r)
      simpa [longI] using this
    · rw [List.takeWhile_cons_of_pos (by simpa using h), longI_cons, longI_cons]
      omega
theorem letGo_enc {longest : Int} : ∀ (row : List Int) (c : Int), longI row ≤ longest → c + longI row ≤ longest → letGo longest row c = enc row
  | [], c, _, _ => rfl
  | o :: r, c, h, hc => by
    have hp := (sizeI_pos o).1
    rw [longI_cons] at h hc
    have hl := longI_line (o :: r)
    rw [longI_cons] at hl
    unfold letGo
    rw [enc_cons]
    by_cases ho : o = 10
    · subst ho
      have e : sizeI 10 = 1 := by decide
      rw [if_pos rfl, letGo_enc r _ (by omega) (by rw [e]; omega)]
    · rw [if_neg ho, if_neg (by unfold brk; omega), letGo_enc r _ (by omega) (by omega)]
theorem letGo_le (longest : Int) : ∀ (row : List Int) (c : Int), (letGo longest row c).length ≤ 5 * row.length
  | [], c => by simp [letGo]
  | o :: r, c => by
    have := (enc1_le o).2
    have q1 := letGo_le longest r (-1 + sizeI o)
    have q2 := letGo_le longest r (0 + sizeI o)
    have q3 := letGo_le longest r (c + sizeI o)
    unfold letGo
    split
    · simp only [List.length_append, List.length_cons]; omega
    · split
      · simp only [List.length_append, List.length_cons]; omega
      · simp only [List.length_append, List.length_cons]; omega
theorem cut_take {α : Type} (l : List α) (n : Nat) : cut l none (some (n : Int)) = l.take n := by
  unfold cut
  simp only [Option.elim]
  rw [clipAt_nat, List.drop_zero, Nat.sub_zero]
  rcases Nat.le_total n l.length with h | h
  · rw [Nat.min_eq_left h]
  · rw [Nat.min_eq_right h, List.take_length, List.take_of_length_le h]
theorem pairs_take (l : List (Int × Int)) (n : Nat) : (pairsD l).take n = pairsD (l.take n) := by simp [pairsD, List.map_take]
theorem pairs_get {l : List (Int × Int)} {i : Nat} {m : Int × Int} (h : l[i]? = some m) : (pairsD l)[i]? = some (.tup [.int m.1, .int m.2]) := by
  unfold pairsD
  rw [List.getElem?_map, h]; rfl
theorem pairs_inv {l : List (Int × Int)} {i : Nat} {d : D} (h : (pairsD l)[i]? = some d) : ∃ m, l[i]? = some m ∧ d = .tup [.int m.1, .int m.2] := by
  unfold pairsD at h
  rw [List.getElem?_map] at h
  obtain ⟨m, hm, rfl⟩ := Option.map_eq_some_iff.mp h
  exact ⟨m, hm, rfl⟩
def fstD (l : List (Int × Int)) (i : Nat) : D := .int (((l[i]?).map (·.1)).getD 0)
theorem fst_list (l : List (Int × Int)) : (List.range (pairsD l).length).map (fstD l) = intsD (l.map (·.1)) := by
  rw [pairsD_length, range_map l (fun m => D.int m.1) (fstD l) fun i m h => by unfold fstD; rw [h]; rfl]
  simp [intsD]

local macro_rules | `(tactic| walk_at "Op") => `(tactic| with_reducible first
  | exact op_add | exact op_sub | exact op_eq | exact op_ne | exact op_lt | exact op_gt | exact op_le | exact op_ge)
local macro_rules | `(tactic| walk_at "Ev") => `(tactic| first
  | with_reducible exact ev_int
  | with_reducible exact ev_str
  | ((with_reducible refine' ev_local ?O ?a ?b ?c); (case O => assumption); (case a => rfl); (case b => rfl); (case c => decide))
  | ((with_reducible refine' ev_neg ?a); (case a => walk_at "Ev"))
  | ((with_reducible refine' ev_bin ?a ?b ?c); (case a => walk_at "Ev"); (case b => walk_at "Ev"); (case c => walk_at "Op"))
  | ((with_reducible refine' ev_cmp ?a ?b ?c ?d); (case a => walk_at "Ev"); (case b => walk_at "Ev"); (case c => walk_at "Op"); (case d => with_unfolding_all rfl)))
local macro_rules | `(tactic| walk_at "Tr") => `(tactic| ((with_reducible refine' tr_cmp ?a ?b ?c ?d); (case a => walk_at "Ev"); (case b => walk_at "Ev"); (case c => walk_at "Op"); (case d => with_unfolding_all rfl)))
local macro_rules | `(tactic| walk_at "Sz") => `(tactic| (rw [sizeLine_eq]; (try simp only [intsD_length, List.length_cons, List.length_nil]); first | decide | omega | (simp; done) | (simp; omega)))
local macro_rules | `(tactic| walk_at "Wk") => `(tactic| ((repeat refine weak_cons (by rfl) ?_); exact weak_nil))

section

variable {w : World} {loose : List Str} {mg mb : Str → Option Value} {p : Program}
theorem g_row : nsIn (KK w) mainGlobals (Str.ofString "_law_row") = some (some (.ref 116)) := by rfl
theorem g_marked : nsIn (KK w) mainGlobals (Str.ofString "_law_marked") = some (some (.ref 90)) := by rfl
theorem g_tails : nsIn (KK w) mainGlobals (Str.ofString "_law_tails") = some (some (.ref 97)) := by rfl
theorem g_text : nsIn (KK w) mainGlobals (Str.ofString "_law_text") = some (some (.ref 121)) := by rfl
theorem g_body : nsIn (KK w) mainGlobals (Str.ofString "body_encode") = some (some (.ref 50)) := by rfl
theorem g_found : nsIn (KK w) mainGlobals (Str.ofString "_law_found") = some (some (.ref 104)) := by rfl

theorem law_does (ns : List Int) (hn : ns.length ≤ 63) : Does PP w (Base (KK w) p loose mg mb) 4 (.ref 126) [.list (intsD ns)] (.bool true) := by
  refine does1 (k := 3) (x := Str.ofString "script") (by rfl) (by rfl) (by intro v; rfl) (by rfl) (by decide) (by rfl) (by rfl) (by rfl) ?_
  intro A L g s O
  have rf := row_fine ns
  have rn := row_ne ns
  have rlen := row_len ns
  refine x_assign O (ev_callDef O (ev_global O g_row (by rfl) (by decide)) (by rfl) (evl_cons (by walk_at "Ev") evl_nil (by rfl)) (row_does ns hn) (by decide) (by rfl) (by rfl) (by rfl)) ?_ (by rfl) (by rfl)
  generalize rowOf ns = row at rf rn rlen
  have hb6 : 0 ≤ (pick ns none none (some 2)).sum.fmod 6 ∧ (pick ns none none (some 2)).sum.fmod 6 < 6 := by
    rw [Int.fmod_eq_emod_of_nonneg _ (by decide)]
    omega
  refine x_assign O (ev_bin ev_int (ev_bin (ev_call1 (ev_builtin O g_sum (by boot_by_name) (by decide) (by rfl) (by decide))
      (ev_as (ev_slice_step O (by walk_at "Ev") pt_none pt_none ev_int (by decide) (by rw [intsD_length]; walk_at "Sz") (by intro _ _; rfl)) (congrArg D.list (pick_ints _ _ _ _))) (op_sum O) (by rfl) (by rfl)) ev_int (op_mod (by decide) (PyProof.noPylong_small (by decide)))) op_add) ?_ (by rfl) (by rfl)
  generalize hLG : 4 + (pick ns none none (some 2)).sum.fmod 6 = LG
  have h4 : 4 ≤ LG := by omega
  have h9 : LG ≤ 9 := by omega
  refine x_assign O (ev_callDef O (ev_global O g_marked (by rfl) (by decide)) (by rfl) (evl_cons (by walk_at "Ev") (evl_cons (by walk_at "Ev") evl_nil (by rfl)) (by rfl)) (marked_does row LG (by omega)) (by decide) (by rfl) (by rfl) (by rfl)) ?_ (by rfl) (by rfl)
  have hml := markGo_len LG row 0 0
  have hmf : ∀ m ∈ markGo LG row 0 0, Fine m.1 := fun m hm => rf _ (by rw [← markGo_fst LG row 0 0]; exact List.mem_map_of_mem hm)
  have hdue := fun (word : List Int) (hw : ∀ o ∈ word, Oct o) (hne : word ≠ []) => found_due LG row word (fun o ho => (rf o ho).1) hw hne
  have hlast := fun (q : Int × Int) (hq : (markGo LG row 0 0).getLast? = some q) => letGo_length LG row 0 0 q hq
  generalize hms : markGo LG row 0 0 = ms at hml hmf hdue hlast
  have hmne : ms ≠ [] := by
    rintro rfl
    exact rn (List.length_eq_zero_iff.mp hml.symm)
  refine x_assign O (ev_callDef O (ev_global O g_tails (by rfl) (by decide)) (by rfl) (evl_cons (by walk_at "Ev") evl_nil (by rfl)) (tails_does ms (by omega) (fun m hm => (hmf m hm).1)) (by decide) (by rfl) (by rfl) (by rfl)) ?_ (by rfl) (by rfl)
  have htm := tailsP_mem ms hmf
  have htc := tailsP_count ms
  generalize tailsP ms = ts at htm htc hdue
  have htl : 0 < ts.length := htc.2 hmne
  have htl2 : ts.length ≤ 51 := by have := htc.1; omega
  have htd : (tailsD ts).length = ts.length := by simp [tailsD]
  have hbi : 0 ≤ (pick ns (some 1) none (some 2)).sum.fmod (ts.length : Int) ∧ (pick ns (some 1) none (some 2)).sum.fmod (ts.length : Int) < ts.length := by
    rw [Int.fmod_eq_emod_of_nonneg _ (by omega)]
    exact ⟨Int.emod_nonneg _ (by omega), Int.emod_lt_of_pos _ (by omega)⟩
  obtain ⟨ch, hch⟩ : ∃ ch, ts[((pick ns (some 1) none (some 2)).sum.fmod (ts.length : Int)).toNat]? = some ch := ⟨_, List.getElem?_eq_getElem (by omega)⟩
  have hchD : (tailsD ts)[((pick ns (some 1) none (some 2)).sum.fmod (ts.length : Int)).toNat]? = some (.list (pairsD ch)) := by
    unfold tailsD
    rw [List.getElem?_map, hch]; rfl
  obtain ⟨hc1, hc2, hc3⟩ := htm ch (List.mem_of_getElem? hch)
  refine x_assign O (d := .list (pairsD ch)) (ev_sub (by walk_at "Ev") (ev_bin (ev_call1 (ev_builtin O g_sum (by boot_by_name) (by decide) (by rfl) (by decide))
      (ev_as (ev_slice_step O (by walk_at "Ev") (pt_some ev_int) pt_none ev_int (by decide) (by rw [intsD_length]; walk_at "Sz") (by intro _ _; rfl)) (congrArg D.list (pick_ints _ _ _ _))) (op_sum O) (by rfl) (by rfl))
      (ev_as (ev_call1 (ev_builtin O g_len (by boot_by_name) (by decide) (by rfl) (by decide)) (by walk_at "Ev") (op_len_list (by rw [htd]; walk_at "Sz")) (by rfl) (by rfl)) (by rw [htd])) (op_mod (by omega) (PyProof.noPylong_small (by omega)))) (op_item hbi.1 (by omega) hchD (by intro _ _; rfl))) ?_ (by rfl) (by rfl)
  have hfm4 : ((ns.length : Int) + 2).fmod 4 = (((ns.length + 2) % 4 : Nat) : Int) := by
    rw [Int.fmod_eq_emod_of_nonneg _ (by decide)]
    omega
  have hone : (1 : Int) + (((ns.length + 2) % 4 : Nat) : Int) = ((1 + (ns.length + 2) % 4 : Nat) : Int) := by omega
  have hn4 : 1 + (ns.length + 2) % 4 ≤ 4 := by omega
  have hn1 : 1 ≤ 1 + (ns.length + 2) % 4 := by omega
  have pairElt : ∀ {c : Fc} {k : Nat} {sc : Scope} {px py tp q : Pos} {n : Nat} (l : List (Int × Int)), (∀ C, (compEnvC sc [] C c.env).kindOf (Str.ofString "octet") = some .local) → (∀ C, (compEnvC sc [] C c.env).kindOf (Str.ofString "place") = some .local) →
      (∀ env : Env, assignEach [.Name (Str.ofString "octet") px, .Name (Str.ofString "place") py] env = [(false, assign (.Name (Str.ofString "octet") px) env), (false, assign (.Name (Str.ofString "place") py) env)]) →
      c.Elt (KK w) p loose mg mb k sc (.Tuple [.Name (Str.ofString "octet") px, .Name (Str.ofString "place") py] n tp) (.Name (Str.ofString "octet") q) (pairsD l) (fstD l) := by
    intro c k sc px py tp q n l h1 h2 h3
    refine elt_pair h1 h2 h3 fun C g' s' O' i d hd => ?_
    obtain ⟨m, hm, rfl⟩ := pairs_inv hd
    refine ⟨.int m.1, .int m.2, rfl, fun mu' fx' => ev_local O' ?_ (h1 C) (by decide)⟩
    unfold fstD
    rw [hm]; rfl
  refine x_assign_comp O (ds := pairsD (ch.take (1 + (ns.length + 2) % 4))) (src_list (ev_as (ev_slice O (by walk_at "Ev") pt_none (pt_some (ev_as (ev_bin ev_int (ev_as (ev_bin (ev_bin (ev_as (ev_call1 (ev_builtin O g_len (by boot_by_name) (by decide) (by rfl) (by decide)) (by walk_at "Ev") (op_len_list (by rw [intsD_length]; walk_at "Sz")) (by rfl) (by rfl)) (by rw [intsD_length])) ev_int op_add) ev_int (op_mod (by decide) (PyProof.noPylong_small (by decide)))) (congrArg D.int hfm4)) op_add) (congrArg D.int hone)))
      (by rw [pairsD_length]; walk_at "Sz") (by intro _ _; rfl)) (congrArg D.list ((cut_take _ _).trans (pairs_take _ _))))) (pairElt (ch.take (1 + (ns.length + 2) % 4)) (by intro C; rfl) (by intro C; rfl) (by intro _; rfl)) (by rw [pairsD_length, List.length_take]; walk_at "Sz") ?_ (by rfl) (by rfl) (by decide) (by decide) (by rfl) (by decide) (by intro _; rfl)
  rw [fst_list]
  have hwl : ((ch.take (1 + (ns.length + 2) % 4)).map (·.1)).length ≤ 4 := by rw [List.length_map, List.length_take]; omega
  have hwf : ∀ o ∈ (ch.take (1 + (ns.length + 2) % 4)).map (·.1), Fine o := by
    intro o ho
    obtain ⟨m, hm, rfl⟩ := List.mem_map.mp ho
    exact hc3 m (List.mem_of_mem_take hm)
  have hwne : (ch.take (1 + (ns.length + 2) % 4)).map (·.1) ≠ [] := by
    obtain ⟨x, y, e⟩ := List.exists_cons_of_ne_nil hc1
    have e4 : 1 + (ns.length + 2) % 4 = (ns.length + 2) % 4 + 1 := by omega
    rw [e, e4, List.take_succ_cons]
    simp
  generalize (ch.take (1 + (ns.length + 2) % 4)).map (·.1) = word at hwl hwf hwne
  have hwpos : 0 < word.length := List.length_pos_iff.mpr hwne
  have hd := hdue word (fun o ho => (hwf o ho).1) hwne
  refine x_new O (fun a => ?_) (by rfl) (by rfl)
  refine x_weaken (σ' := [(Str.ofString "due", .val (.ref a)), (Str.ofString "word", .list (intsD word)), (Str.ofString "tails", .list (tailsD ts)), (Str.ofString "marked", .list (pairsD ms)), (Str.ofString "longest", .int LG), (Str.ofString "row", .list (intsD row))]) ?_ (by walk_at "Wk")
  refine x_for O (fun _ => True) (fun _ => [(Str.ofString "due", .val (.ref a)), (Str.ofString "word", .list (intsD word)), (Str.ofString "tails", .list (tailsD ts)), (Str.ofString "marked", .list (pairsD ms)), (Str.ofString "longest", .int LG), (Str.ofString "row", .list (intsD row))])
    (fun i => [(a, true, intsD (dueOf word (ts.take i)))]) trivial (src_list (by walk_at "Ev")) (by rfl) ?_ ?_ (by intro _; rfl) (by intro _ _; rfl)
  · intro i d _ hd' τ' fx'
    unfold tailsD at hd'
    rw [List.getElem?_map] at hd'
    obtain ⟨t, ht, rfl⟩ := Option.map_eq_some_iff.mp hd'
    obtain ⟨ht1, ht2, ht3⟩ := htm t (List.mem_of_getElem? ht)
    have htake : ts.take (i + 1) = ts.take i ++ [t] := by rw [List.take_add_one, ht]; rfl
    have hnext : dueOf word (ts.take (i + 1)) = dueOf word (ts.take i) ++ due1 word t := by
      rw [htake]; unfold dueOf; rw [List.flatMap_append]; simp
    have hcnt := dueOf_count word (ts.take i)
    rw [List.length_take] at hcnt
    have lenW : ∀ {σ : Vars} {mu : Muts} {fx : Fixs} {pos px : Pos} {q : Pos} , True := trivial
    refine x_if (tr_cmp (ev_as (ev_comp O (ds := pairsD (t.take word.length)) (src_list (ev_as (ev_slice O (by walk_at "Ev") pt_none (pt_some (ev_as (ev_call1 (ev_builtin O g_len (by boot_by_name) (by decide) (by rfl) (by decide)) (by walk_at "Ev") (op_len_list (by rw [intsD_length]; walk_at "Sz")) (by rfl) (by rfl)) (by rw [intsD_length])))
      (by rw [pairsD_length]; walk_at "Sz") (by intro _ _; rfl)) (congrArg D.list ((cut_take _ _).trans (pairs_take _ _))))) (pairElt (t.take word.length) (by intro C; rfl) (by intro C; rfl) (by intro _; rfl)) (by rw [pairsD_length, List.length_take]; walk_at "Sz") (by decide) (by decide) (by rfl) (by decide) (by intro _; rfl)) (congrArg D.list (fst_list _))) (by walk_at "Ev") (op_eq_ints O) (by with_unfolding_all rfl)) (fun h => ?_) (fun h => ?_)
    · have hq : (t.take word.length).map (·.1) = word := of_decide_eq_true h
      have htl' : word.length ≤ t.length := by
        have := congrArg List.length hq
        rw [List.length_map, List.length_take] at this
        omega
      obtain ⟨m, hm⟩ : ∃ m, t[word.length - 1]? = some m := ⟨_, List.getElem?_eq_getElem (by omega)⟩
      have key : (pairsD t)[((word.length : Int) - 1).toNat]? = some (.tup [.int m.1, .int m.2]) := by
        have : ((word.length : Int) - 1).toNat = word.length - 1 := by omega
        rw [this]; exact pairs_get hm
      have e1 : due1 word t = [m.2] := by unfold due1; rw [if_pos hq, hm]; rfl
      refine x_append O (by rfl) (by rfl) (by decide) (ev_sub (ev_sub (by walk_at "Ev") (ev_bin (ev_as (ev_call1 (ev_builtin O g_len (by boot_by_name) (by decide) (by rfl) (by decide)) (by walk_at "Ev") (op_len_list (by rw [intsD_length]; walk_at "Sz")) (by rfl) (by rfl)) (by rw [intsD_length])) ev_int op_sub) (op_item (by omega) (by omega) key (by intro _ _; rfl))) ev_int (op_item_tup (j := 1) (d := .int m.2) (by decide) (by decide) (by rfl) (by rfl) (by intro _ _; rfl))) (by rw [intsD_length]; walk_at "Sz") ?_ (by rfl) (by rfl) (by rfl) (by rfl)
      refine x_end (x_turn trivial (by walk_at "Wk") ?_)
      rw [hnext, e1]
      simp [intsD]
    · have hq : ¬ (t.take word.length).map (·.1) = word := of_decide_eq_false h
      have e1 : due1 word t = [] := by unfold due1; rw [if_neg hq]
      refine x_end (x_turn trivial (by walk_at "Wk") ?_)
      rw [hnext, e1, List.append_nil]
  · intro _
    have e0 : (tailsD ts).length = ts.length := htd
    rw [e0, List.take_length]
    refine x_freeze O (x := Str.ofString "due") (by rfl) ?_
    have hwe : (enc word).length ≤ 12 := by have := enc_le word; omega
    have hwl76 : longI word ≤ 76 := by rw [← enc_length]; omega
    have hw0 : 0 < (enc word).length := by
      have : enc word ≠ [] := fun z => hwne ((enc_nil_iff word).mp z)
      exact List.length_pos_iff.mpr this
    have hll := letGo_le LG row 0
    refine x_assign O (ev_callDef O (ev_global O g_body (by rfl) (by decide)) (by rfl) (evl_cons (ev_callDef O (ev_global O g_text (by rfl) (by decide)) (by rfl) (evl_cons (by walk_at "Ev") evl_nil (by rfl)) (text_does row (by omega) (fun o ho => (rf o ho).1)) (by decide) (by rfl) (by rfl) (by rfl)) (evl_cons (by walk_at "Ev") evl_nil (by rfl)) (by rfl))
      (body_does row LG rf rn h4 (by omega) (by omega) _ (.inl rfl)) (by decide) (by rfl) (by rfl) (by rfl)) ?_ (by rfl) (by rfl)
    refine x_assign O (ev_as (ev_callDef O (ev_global O g_body (by rfl) (by decide)) (by rfl) (evl_cons (ev_callDef O (ev_global O g_text (by rfl) (by decide)) (by rfl) (evl_cons (by walk_at "Ev") evl_nil (by rfl)) (text_does word (by omega) (fun o ho => (hwf o ho).1)) (by decide) (by rfl) (by rfl) (by rfl)) evl_nil (by rfl))
      (body_does word 76 hwf hwne (by decide) (by decide) (by omega) _ (.inr ⟨rfl, rfl⟩)) (by decide) (by rfl) (by rfl) (by rfl)) (congrArg D.str (congrArg T (letGo_enc word 0 hwl76 (by omega))))) ?_ (by rfl) (by rfl)
    refine x_assign O (ev_callDef O (ev_global O g_found (by rfl) (by decide)) (by rfl) (evl_cons (by walk_at "Ev") (evl_cons (by walk_at "Ev") (evl_cons (ev_callDef O (ev_global O g_table (by rfl) (by decide)) (by rfl) (evl_cons (by walk_at "Ev") evl_nil (by rfl)) (table_does (enc word) hw0 (by omega)) (by decide) (by rfl) (by rfl) (by rfl)) evl_nil (by rfl)) (by rfl)) (by rfl))
      (found_does (letGo LG row 0) (enc word) (overlap (enc word)) (overlap_ok _) hw0 (by omega) (by omega)) (by decide) (by rfl) (by rfl) (by rfl)) ?_ (by rfl) (by rfl)
    have hmpos : 0 < ms.length := List.length_pos_iff.mpr hmne
    obtain ⟨q, hq⟩ : ∃ q, ms.getLast? = some q := ⟨ms.getLast hmne, List.getLast?_eq_some_getLast hmne⟩
    have hql := hlast q hq
    have hq' : ms[ms.length - 1]? = some q := by rw [← List.getLast?_eq_getElem?]; exact hq
    have key : (pairsD ms)[((-1 : Int) + (pairsD ms).length).toNat]? = some (.tup [.int q.1, .int q.2]) := by
      rw [pairsD_length]
      have : ((-1 : Int) + (ms.length : Int)).toNat = ms.length - 1 := by omega
      rw [this]; exact pairs_get hq'
    refine x_ret_as (ev_and (ev_cmp (by walk_at "Ev") (by walk_at "Ev") (op_eq_ints O) (by with_unfolding_all rfl)) fun _ => ev_and1 (ev_cmp (ev_as (ev_call1 (ev_builtin O g_len (by boot_by_name) (by decide) (by rfl) (by decide)) (by walk_at "Ev") (op_len_str (by rw [T_length]; walk_at "Sz")) (by rfl) (by rfl)) (by rw [T_length]))
      (ev_bin (ev_sub (ev_sub (by walk_at "Ev") (by walk_at "Ev") (op_item_neg (by decide) (by rw [pairsD_length]; omega) (by decide) key (by intro _ _; rfl))) ev_int (op_item_tup (j := 1) (d := .int q.2) (by decide) (by decide) (by rfl) (by rfl) (by intro _ _; rfl))) ev_int op_add) op_eq (by with_unfolding_all rfl))) ?_
    rw [hd]
    have : ((letGo LG row 0).length : Int) = q.2 + 1 := by omega
    simp [this]
end
end Mine

end
/-! ## P5 -/
section
open PySem PySem.W PyProof.Rows
namespace Mine
theorem g_law {w : World} : nsIn (KK w) mainGlobals (Str.ofString "law") = some (some (.ref 126)) := by rfl
theorem good_bool {c : ClaimW} {cl : Str → Option Addr} {mean : ExcName → Option Value} {args : List WData} {s₁ s' : Shared} {b : Bool} (hk : s₁.heap.StaysIn s'.heap) (hg : s'.gens = #[]) (hn : ∀ cls, c.raises args cls = false) (hp : c.post args (.bool b) args = true) (hos : s'.os = s₁.os) :
    GoodW c cl mean args s₁ (.ok (.ret (.bool b))) s' := ⟨.inl ⟨.bool b, .bool b, [], rfl, hn, .bool b, hp, unshared_nil⟩, hk, hos, hg⟩
theorem post_true (args : List WData) : PySem.Challenge.rw_tx0018_01.row.toRowW.claim.post args (.bool true) args = true := by
  show (WShape.has [] (.bool true) .bool && WTm.holds [] (.eq .res (.lit (.bool true))) { args := args, res := some (.bool true), after := args }) = true
  unfold WTm.holds
  rw [w_eq_bool (w_res rfl) w_lit]
  rfl
end Mine
end
set_option maxHeartbeats 0 in
theorem PySem.Challenge.cw_tx0018_01_holds : PySem.Challenge.rw_tx0018_01.Holds := by
  refine MineN.hd (by rfl) (by rfl) (by rfl) (by
  intro w s₀ s₁ mg mb G Y fa o pm cd doc dV kV ho hdt hcd hD hmg hg args vals as hpre hlay hrd hwl hlo
  have KX := kIn_of Y
  refine Ground.open G ?_
  intro T B D TE TW
  have RT := topRead_of T
  have e : mg (Str.ofString "law") = some (.ref 126) := mg_of KX RT.g (Mine.g_law (w := w))
  obtain rfl : fa = 126 := by
    have := hmg.symm.trans e
    exact Value.ref.inj (Option.some.inj this)
  clear G Y B TE TW D hdt hcd hD hmg e T ho
  wrow_args hpre hlay hrd hwl hlo
  rename IntsAre _ _ => hI
  rename Heap.IsList _ _ _ => hL
  rename (¬ _ < _) => hc
  rename List Int => ns
  refine wpAny_mono (Mine.law_does (w := w) ns (by omega) callerA s₁ s₁.heap _ rfl (by decide) (by decide) ⟨KX, RT⟩ (fun _ _ e => e) (.cons (.list hL (Mine.of_intsAre hI)) .nil)) (fun v s' h => ?_) (fun _ _ f => f.elim)
  obtain ⟨g', ⟨⟨h', tk, rfl⟩, hk, _⟩, hv⟩ := h
  obtain rfl := Mine.is_bool hv
  refine GoodW.toG (Mine.good_bool hk hg (fun cls => ?_) ?_ rfl)
  · rfl
  · exact Mine.post_true _)


