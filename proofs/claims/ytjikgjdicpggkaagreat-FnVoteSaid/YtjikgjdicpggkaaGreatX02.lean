import Derived.Defers
import Derived.Laws.Pointers
import Derived.Recover
import Derived.Tactics2
import Derived.Test.YtjikgjdicpggkaaGreatProg
import Derived.WalkKit
import Derived.Test.YtjikgjdicpggkaaGreatX01
set_option autoImplicit true
set_option relaxedAutoImplicit true
set_option linter.all false
set_option maxRecDepth 100000
set_option maxHeartbeats 4000000
namespace Go.Sx
open Go Go.Proofs
inductive TyTree where
 |lf|nd (k:Nat) (v:TyI) (l r:TyTree)
def TyTree.find:TyTree→Nat→Option TyI
 |.lf,_=>none|.nd k v l r,t=>match Nat.blt t k with
  |true=>l.find t|false=>match Nat.blt k t with
   |true=>r.find t|false=>some v
def TyTree.list:TyTree→List (Nat×TyI)
 |.lf=>[]|.nd k v l r=>l.list++(k,v)::r.list
theorem TyTree.find_mem:∀(T:TyTree) (t:Nat) (i:TyI),T.find t=some i→(t,i)∈T.list
 |.lf,_,_,h=>by cases h
 |.nd k v l r,t,i,h=>by
  simp only[TyTree.find] at h;simp only[TyTree.list,List.mem_append,List.mem_cons];split at h
  ·exact .inl (find_mem l t i h)
  ·rename_i h1;split at h
   ·exact .inr (.inr (find_mem r t i h))
   ·rename_i h2;have e:t=k:=by
     have a:=mt (Nat.ble_eq_true_of_le (n:=t+1) (m:=k)) (by rw[Nat.blt] at h1;simp[h1]);have b:=mt (Nat.ble_eq_true_of_le (n:=k+1) (m:=t)) (by rw[Nat.blt] at h2;simp[h2]);omega
    cases h;subst e;exact .inr (.inl rfl)
def ty9:TyTree:=.nd 9 ⟨1,false,.v (.string .empty),.str⟩ (.nd 3 ⟨1,false,.lit .i64 0,.int .i64⟩ (.nd 2 ⟨1,false,.lit .i64 0,.int .i64⟩ (.nd 1 ⟨1,false,.v .nilFunc,.func⟩ .lf .lf) .lf) (.nd 5 ⟨1,false,.lit .u8 0,.int .u8⟩ (.nd 4 ⟨1,false,.bl false,.bool⟩ .lf .lf) .lf)) (.nd 23 ⟨1,false,.v (.slice none 0 0),.slice 3⟩ (.nd 22 ⟨1,false,.lit .u64 0,.int .u64⟩ (.nd 20 ⟨1,false,.v .nilIface,.iface⟩ .lf .lf) .lf) (.nd 24 ⟨1,false,.v (.slice none 0 0),.slice 22⟩ .lf .lf))
def ty38:TyTree:=.nd 38 ⟨21,true,.agg [.lit .i64 0,.lit .u64 0,.lit .u64 0,.lit .u64 0,.lit .u64 0,.lit .u64 0,.lit .u64 0,.lit .u64 0,.lit .u64 0,.v (.slice none 0 0),.v (.string .empty),.lit .u64 0,.lit .u64 0,.v (.slice none 0 0),.v (.slice none 0 0),.v (.slice none 0 0),.v (.slice none 0 0),.bl false,.bl false,.v (.string .empty),.v (.slice none 0 0)],.struct [(0,1,false),(1,1,false),(2,1,false),(3,1,false),(4,1,false),(5,1,false),(6,1,false),(7,1,false),(8,1,false),(9,1,false),(10,8,true),(18,1,false),(19,1,false),(20,1,false)]⟩ (.nd 31 ⟨3,true,.agg [.lit .u64 0,.lit .u64 0,.lit .u64 0],.struct [(0,1,false),(1,1,false),(2,1,false)]⟩ (.nd 29 ⟨1,false,.v (.slice none 0 0),.slice 81⟩ (.nd 28 ⟨8,true,.agg [.v (.string .empty),.lit .u64 0,.lit .u64 0,.v (.slice none 0 0),.v (.slice none 0 0),.v (.slice none 0 0),.v (.slice none 0 0),.bl false],.struct [(0,1,false),(1,1,false),(2,1,false),(3,5,true)]⟩ .lf .lf) .lf) (.nd 36 ⟨1,false,.v (.slice none 0 0),.slice 38⟩ (.nd 33 ⟨26,true,.agg [.lit .u64 0,.lit .i64 0,.lit .i64 0,.v (.slice none 0 0),.bl false,.bl false,.bl false,.bl false,.bl false,.lit .u64 0,.lit .u64 0,.lit .u64 0,.lit .i64 0,.v (.string .empty),.lit .u64 0,.lit .u64 0,.v (.slice none 0 0),.v (.slice none 0 0),.v (.slice none 0 0),.v (.slice none 0 0),.bl false,.v (.slice none 0 0),.lit .u64 0,.lit .u64 0,.lit .u64 0,.lit .u64 0],.struct [(0,1,false),(1,1,false),(2,1,false),(3,1,false),(4,1,false),(5,1,false),(6,1,false),(7,1,false),(8,1,false),(9,1,false),(10,1,false),(11,1,false),(12,1,false),(13,8,true),(21,1,false),(22,3,true),(25,1,false)]⟩ .lf .lf) .lf)) (.nd 42 ⟨3,true,.agg [.lit .i64 0,.v (.slice none 0 0),.v (.string .empty)],.struct [(0,1,false),(1,1,false),(2,1,false)]⟩ (.nd 40 ⟨1,false,.v (.slice none 0 0),.slice 347⟩ (.nd 39 ⟨1,false,.v (.pointer none),.ptr 50⟩ .lf .lf) .lf) (.nd 44 ⟨28,true,.agg [.lit .i64 0,.lit .u64 0,.v (.string .empty),.lit .i64 0,.lit .u64 0,.lit .u64 0,.lit .u64 0,.lit .u64 0,.lit .u64 0,.lit .u64 0,.lit .u64 0,.lit .u64 0,.v (.slice none 0 0),.v (.string .empty),.lit .u64 0,.lit .u64 0,.v (.slice none 0 0),.v (.slice none 0 0),.v (.slice none 0 0),.v (.slice none 0 0),.bl false,.bl false,.v (.string .empty),.v (.slice none 0 0),.lit .i64 0,.v (.slice none 0 0),.v (.string .empty),.bl false],.struct [(0,1,false),(1,1,false),(2,1,false),(3,21,true),(24,3,true),(27,1,false)]⟩ .lf .lf))
def ty26:TyTree:=.nd 26 ⟨5,true,.agg [.v (.slice none 0 0),.v (.slice none 0 0),.v (.slice none 0 0),.v (.slice none 0 0),.bl false],.struct [(0,1,false),(1,1,false),(2,1,false),(3,1,false),(4,1,false)]⟩ ty9 ty38
def ty66:TyTree:=.nd 66 ⟨1,false,.v (.slice none 0 0),.slice 86⟩ (.nd 50 ⟨61,true,.agg [.lit .u64 0,.lit .i64 0,.lit .i64 0,.v (.slice none 0 0),.bl false,.bl false,.bl false,.bl false,.bl false,.lit .u64 0,.lit .u64 0,.lit .u64 0,.lit .i64 0,.v (.string .empty),.lit .u64 0,.lit .u64 0,.v (.slice none 0 0),.v (.slice none 0 0),.v (.slice none 0 0),.v (.slice none 0 0),.bl false,.v (.slice none 0 0),.lit .u64 0,.lit .u64 0,.lit .u64 0,.lit .u64 0,.v (.slice none 0 0),.lit .i64 0,.bl false,.lit .i64 0,.lit .u64 0,.lit .u64 0,.lit .u64 0,.lit .u64 0,.lit .u64 0,.lit .u64 0,.v (.slice none 0 0),.v (.slice none 0 0),.v (.slice none 0 0),.v (.slice none 0 0),.bl false,.bl false,.bl false,.lit .u64 0,.lit .u64 0,.lit .u64 0,.v (.slice none 0 0),.v (.string .empty),.lit .u64 0,.lit .u64 0,.v (.slice none 0 0),.v (.slice none 0 0),.v (.slice none 0 0),.v (.slice none 0 0),.bl false,.v (.slice none 0 0),.v (.slice none 0 0),.v (.slice none 0 0),.bl false,.v (.slice none 0 0),.v (.slice none 0 0)],.struct [(0,26,true),(26,1,false),(27,33,true),(60,1,false)]⟩ (.nd 48 ⟨33,true,.agg [.lit .i64 0,.bl false,.lit .i64 0,.lit .u64 0,.lit .u64 0,.lit .u64 0,.lit .u64 0,.lit .u64 0,.lit .u64 0,.v (.slice none 0 0),.v (.slice none 0 0),.v (.slice none 0 0),.v (.slice none 0 0),.bl false,.bl false,.bl false,.lit .u64 0,.lit .u64 0,.lit .u64 0,.v (.slice none 0 0),.v (.string .empty),.lit .u64 0,.lit .u64 0,.v (.slice none 0 0),.v (.slice none 0 0),.v (.slice none 0 0),.v (.slice none 0 0),.bl false,.v (.slice none 0 0),.v (.slice none 0 0),.v (.slice none 0 0),.bl false,.v (.slice none 0 0)],.struct [(0,1,false),(1,1,false),(2,1,false),(3,1,false),(4,3,true),(7,1,false),(8,1,false),(9,5,true),(14,1,false),(15,1,false),(16,3,true),(19,1,false),(20,8,true),(28,1,false),(29,1,false),(30,1,false),(31,1,false),(32,1,false)]⟩ (.nd 46 ⟨1,false,.v (.slice none 0 0),.slice 283⟩ .lf .lf) .lf) (.nd 65 ⟨6,true,.agg [.lit .i64 0,.lit .i64 0,.bl false,.bl false,.lit .u64 0,.v (.slice none 0 0)],.struct [(0,1,false),(1,1,false),(2,1,false),(3,1,false),(4,1,false),(5,1,false)]⟩ (.nd 55 ⟨14,true,.agg [.lit .u64 0,.lit .u64 0,.lit .u64 0,.lit .u64 0,.lit .u64 0,.v (.string .empty),.lit .u64 0,.lit .u64 0,.v (.slice none 0 0),.v (.slice none 0 0),.v (.slice none 0 0),.v (.slice none 0 0),.bl false,.v (.slice none 0 0)],.struct [(0,1,false),(1,1,false),(2,3,true),(5,8,true),(13,1,false)]⟩ .lf .lf) .lf)) (.nd 76 ⟨3,true,.agg [.v (.slice none 0 0),.lit .i64 0,.bl false],.struct [(0,1,false),(1,1,false),(2,1,false)]⟩ (.nd 74 ⟨1,false,.v (.slice none 0 0),.slice 79⟩ (.nd 70 ⟨1,false,.v (.slice none 0 0),.slice 76⟩ .lf .lf) .lf) (.nd 77 ⟨1,false,.v (.slice none 0 0),.slice 92⟩ .lf .lf))
def ty95:TyTree:=.nd 95 ⟨1,false,.v (.slice none 0 0),.slice 48⟩ (.nd 87 ⟨1,false,.v (.slice none 0 0),.slice 89⟩ (.nd 86 ⟨4,true,.agg [.lit .i64 0,.lit .i64 0,.lit .i64 0,.v (.string .empty)],.struct [(0,1,false),(1,1,false),(2,1,false),(3,1,false)]⟩ (.nd 81 ⟨4,true,.agg [.lit .u64 0,.lit .u64 0,.lit .i64 0,.v (.string .empty)],.struct [(0,1,false),(1,1,false),(2,1,false),(3,1,false)]⟩ .lf .lf) .lf) (.nd 92 ⟨2,true,.agg [.lit .u64 0,.v (.string .empty)],.struct [(0,1,false),(1,1,false)]⟩ (.nd 89 ⟨2,true,.agg [.lit .u64 0,.lit .i64 0],.struct [(0,1,false),(1,1,false)]⟩ .lf .lf) .lf)) (.nd 109 ⟨2,true,.agg [.lit .u64 0,.lit .u64 0],.struct [(0,1,false),(1,1,false)]⟩ (.nd 104 ⟨1,false,.v (.slice none 0 0),.slice 109⟩ (.nd 103 ⟨1,false,.v (.slice none 0 0),.slice 9⟩ .lf .lf) .lf) (.nd 110 ⟨1,false,.v (.map none),.map 22 22⟩ .lf .lf))
def ty79:TyTree:=.nd 79 ⟨16,true,.agg [.lit .u64 0,.lit .u64 0,.lit .u64 0,.lit .u64 0,.lit .i64 0,.lit .u64 0,.lit .u64 0,.v (.slice none 0 0),.lit .u64 0,.v (.slice none 0 0),.v (.slice none 0 0),.v (.slice none 0 0),.v (.slice none 0 0),.v (.slice none 0 0),.bl false,.v (.slice none 0 0)],.struct [(0,1,false),(1,1,false),(2,1,false),(3,1,false),(4,1,false),(5,1,false),(6,1,false),(7,1,false),(8,1,false),(9,1,false),(10,5,true),(15,1,false)]⟩ ty66 ty95
def ty45:TyTree:=.nd 45 ⟨1,false,.v (.slice none 0 0),.slice 44⟩ ty26 ty79
def ty145:TyTree:=.nd 145 ⟨1,false,.v (.slice none 0 0),.slice 191⟩ (.nd 133 ⟨1,false,.v (.pointer none),.ptr 229⟩ (.nd 132 ⟨1,false,.v (.pointer none),.ptr 216⟩ (.nd 131 ⟨1,false,.v (.pointer none),.ptr 243⟩ .lf .lf) .lf) (.nd 144 ⟨1,false,.v (.pointer none),.ptr 147⟩ (.nd 135 ⟨31,true,.agg [.lit .u64 0,.lit .i64 0,.lit .i64 0,.v (.slice none 0 0),.bl false,.bl false,.bl false,.bl false,.bl false,.lit .u64 0,.lit .u64 0,.lit .u64 0,.lit .i64 0,.v (.string .empty),.lit .u64 0,.lit .u64 0,.v (.slice none 0 0),.v (.slice none 0 0),.v (.slice none 0 0),.v (.slice none 0 0),.bl false,.v (.slice none 0 0),.lit .u64 0,.lit .u64 0,.lit .u64 0,.lit .u64 0,.bl false,.v (.pointer none),.v (.pointer none),.lit .u64 0,.v (.pointer none)],.struct [(0,26,true),(26,1,false),(27,1,false),(28,1,false),(29,1,false),(30,1,false)]⟩ .lf .lf) .lf)) (.nd 154 ⟨1,false,.v (.pointer none),.ptr 223⟩ (.nd 150 ⟨1,false,.v .nilIface,.iface⟩ (.nd 147 ⟨8,true,.agg [.lit .i64 0,.lit .i64 0,.bl false,.bl false,.lit .u64 0,.v (.slice none 0 0),.v (.slice none 0 0),.v (.slice none 0 0)],.struct [(0,6,true),(6,1,false),(7,1,false)]⟩ .lf .lf) .lf) (.nd 156 ⟨1,false,.v .nilFunc,.func⟩ .lf .lf))
def ty176:TyTree:=.nd 176 ⟨1,false,.v (.pointer none),.ptr 269⟩ (.nd 166 ⟨2,true,.agg [.lit .u64 0,.lit .u64 0],.struct [(0,1,false),(1,1,false)]⟩ (.nd 164 ⟨1,false,.lit .u64 0,.int .u64⟩ (.nd 160 ⟨1,false,.v (.pointer none),.ptr 226⟩ .lf .lf) .lf) (.nd 174 ⟨1,false,.v (.slice none 0 0),.slice 5⟩ (.nd 168 ⟨6,true,.agg [.lit .u64 0,.v (.pointer none),.lit .u64 0,.lit .u64 0,.lit .u64 0,.lit .u64 0],.struct [(0,1,false),(1,1,false),(2,2,true),(4,1,false),(5,1,false)]⟩ .lf .lf) .lf)) (.nd 191 ⟨1,false,.v (.pointer none),.ptr 193⟩ (.nd 185 ⟨1,false,.v (.pointer none),.ptr 299⟩ (.nd 182 ⟨1,false,.lit .i64 0,.int .i64⟩ .lf .lf) .lf) (.nd 193 ⟨7,true,.agg [.v (.pointer none),.v (.pointer none),.lit .u64 0,.lit .u64 0,.v (.slice none 0 0),.v (.slice none 0 0),.v (.pointer none)],.struct [(0,1,false),(1,1,false),(2,1,false),(3,1,false),(4,1,false),(5,1,false),(6,1,false)]⟩ .lf .lf))
def ty157:TyTree:=.nd 157 ⟨1,false,.v (.slice none 0 0),.slice 209⟩ ty145 ty176
def ty209:TyTree:=.nd 209 ⟨1,false,.v (.pointer none),.ptr 212⟩ (.nd 205 ⟨1,false,.lit .i32 0,.int .i32⟩ (.nd 204 ⟨1,false,.v (.pointer none),.ptr 205⟩ (.nd 203 ⟨1,false,.v (.pointer none),.ptr 208⟩ .lf .lf) .lf) (.nd 208 ⟨4,true,.agg [.v (.pointer none),.v (.pointer none),.v (.slice none 0 0),.v (.pointer none)],.struct [(0,1,false),(1,1,false),(2,1,false),(3,1,false)]⟩ (.nd 206 ⟨1,false,.v (.pointer none),.ptr 22⟩ .lf .lf) .lf)) (.nd 214 ⟨6,true,.agg [.lit .i64 0,.lit .i64 0,.lit .i64 0,.lit .i64 0,.lit .i64 0,.lit .i64 0],.struct [(0,1,false),(1,1,false),(2,1,false),(3,1,false),(4,1,false),(5,1,false)]⟩ (.nd 212 ⟨4,true,.agg [.v (.pointer none),.v (.pointer none),.v (.pointer none),.v (.slice none 0 0)],.struct [(0,1,false),(1,1,false),(2,1,false),(3,1,false)]⟩ (.nd 210 ⟨1,false,.v (.pointer none),.ptr 306⟩ .lf .lf) .lf) (.nd 216 ⟨9,true,.agg [.v (.pointer none),.v (.pointer none),.v (.slice none 0 0),.lit .i64 0,.lit .i64 0,.lit .i64 0,.lit .i64 0,.lit .i64 0,.lit .i64 0],.struct [(0,1,false),(1,1,false),(2,1,false),(3,6,true)]⟩ .lf .lf))
def ty230:TyTree:=.nd 230 ⟨1,false,.v (.pointer none),.ptr 235⟩ (.nd 226 ⟨3,true,.agg [.v (.pointer none),.v (.pointer none),.v (.pointer none)],.struct [(0,1,false),(1,1,false),(2,1,false)]⟩ (.nd 223 ⟨2,true,.agg [.v (.slice none 0 0),.v (.pointer none)],.struct [(0,1,false),(1,1,false)]⟩ (.nd 221 ⟨3,true,.agg [.v (.pointer none),.v (.pointer none),.v (.pointer none)],.struct [(0,1,false),(1,1,false),(2,1,false)]⟩ .lf .lf) .lf) (.nd 229 ⟨5,true,.agg [.v (.slice none 0 0),.v (.slice none 0 0),.v (.slice none 0 0),.v (.slice none 0 0),.v (.pointer none)],.struct [(0,1,false),(1,1,false),(2,1,false),(3,1,false),(4,1,false)]⟩ (.nd 227 ⟨1,false,.v (.pointer none),.ptr 4⟩ .lf .lf) .lf)) (.nd 235 ⟨18,true,.agg [.lit .u64 0,.lit .i64 0,.lit .i64 0,.v .nilIface,.lit .u64 0,.bl false,.lit .u64 0,.lit .u64 0,.lit .u64 0,.lit .i64 0,.lit .u64 0,.bl false,.bl false,.lit .i64 0,.bl false,.bl false,.bl false,.v (.slice none 0 0)],.struct [(0,1,false),(1,1,false),(2,1,false),(3,1,false),(4,1,false),(5,1,false),(6,1,false),(7,1,false),(8,1,false),(9,1,false),(10,1,false),(11,1,false),(12,1,false),(13,1,false),(14,1,false),(15,1,false),(16,1,false),(17,1,false)]⟩ (.nd 233 ⟨1,false,.lit .i64 0,.int .i64⟩ (.nd 232 ⟨1,false,.v .nilIface,.iface⟩ .lf .lf) .lf) (.nd 239 ⟨1,false,.v (.pointer none),.ptr 264⟩ .lf .lf))
def ty218:TyTree:=.nd 218 ⟨1,false,.v (.string .empty),.str⟩ ty209 ty230
def ty198:TyTree:=.nd 198 ⟨1,false,.v (.pointer none),.ptr 221⟩ ty157 ty218
def ty130:TyTree:=.nd 130 ⟨1,false,.v (.pointer none),.ptr 135⟩ ty45 ty198
def ty248:TyTree:=.nd 248 ⟨1,false,.lit .u64 0,.int .u64⟩ (.nd 245 ⟨1,false,.v (.slice none 0 0),.slice 281⟩ (.nd 243 ⟨5,true,.agg [.v (.pointer none),.bl false,.v (.pointer none),.v (.pointer none),.v (.slice none 0 0)],.struct [(0,1,false),(1,1,false),(2,1,false),(3,1,false),(4,1,false)]⟩ (.nd 241 ⟨1,false,.v (.slice none 0 0),.slice 176⟩ .lf .lf) .lf) (.nd 247 ⟨1,false,.lit .u64 0,.int .u64⟩ (.nd 246 ⟨1,false,.v (.pointer none),.ptr 313⟩ .lf .lf) .lf)) (.nd 251 ⟨2,true,.agg [.v (.map none),.v (.map none)],.array 2 250⟩ (.nd 250 ⟨1,false,.v (.map none),.map 22 414⟩ (.nd 249 ⟨1,false,.v (.map none),.map 22 414⟩ .lf .lf) .lf) (.nd 252 ⟨2,true,.agg [.v (.map none),.v (.map none)],.array 2 250⟩ .lf .lf))
def ty262:TyTree:=.nd 262 ⟨1,false,.v .nilFunc,.func⟩ (.nd 257 ⟨1,false,.v (.map none),.map 22 4⟩ (.nd 256 ⟨1,false,.v (.map none),.map 22 272⟩ (.nd 255 ⟨1,false,.v (.map none),.map 22 272⟩ .lf .lf) .lf) (.nd 260 ⟨1,false,.v (.pointer none),.ptr 398⟩ (.nd 259 ⟨9,true,.agg [.v (.map none),.v (.map none),.bl false,.v (.map none),.v (.map none),.v (.map none),.v (.map none),.lit .i64 0,.lit .u64 0],.struct [(0,5,true),(5,1,false),(6,1,false),(7,1,false),(8,1,false)]⟩ .lf .lf) .lf)) (.nd 266 ⟨1,false,.lit .i32 0,.int .i32⟩ (.nd 265 ⟨1,false,.v (.pointer none),.ptr 266⟩ (.nd 264 ⟨40,true,.agg [.lit .u64 0,.lit .u64 0,.lit .u64 0,.v (.slice none 0 0),.v (.pointer none),.lit .u64 0,.lit .u64 0,.v (.map none),.v (.map none),.bl false,.v (.map none),.v (.map none),.v (.map none),.v (.map none),.lit .i64 0,.lit .u64 0,.lit .u64 0,.bl false,.v (.slice none 0 0),.v (.slice none 0 0),.lit .u64 0,.lit .u64 0,.lit .u64 0,.bl false,.lit .u64 0,.v (.pointer none),.lit .i64 0,.lit .i64 0,.bl false,.bl false,.lit .i64 0,.lit .i64 0,.lit .i64 0,.bl false,.bl false,.v .nilFunc,.v .nilFunc,.v (.slice none 0 0),.v (.slice none 0 0),.lit .i64 0],.struct [(0,1,false),(1,1,false),(2,1,false),(3,1,false),(4,1,false),(5,1,false),(6,1,false),(7,9,true),(16,1,false),(17,1,false),(18,1,false),(19,1,false),(20,1,false),(21,1,false),(22,1,false),(23,1,false),(24,1,false),(25,1,false),(26,1,false),(27,1,false),(28,1,false),(29,1,false),(30,1,false),(31,1,false),(32,1,false),(33,1,false),(34,1,false),(35,1,false),(36,1,false),(37,1,false),(38,1,false),(39,1,false)]⟩ .lf .lf) .lf) (.nd 269 ⟨14,true,.agg [.v (.pointer none),.v (.pointer none),.v (.pointer none),.v (.pointer none),.v (.pointer none),.v (.pointer none),.v (.slice none 0 0),.v (.pointer none),.v (.pointer none),.v (.pointer none),.v (.pointer none),.v (.pointer none),.v (.slice none 0 0),.v (.slice none 0 0)],.struct [(0,1,false),(1,1,false),(2,1,false),(3,1,false),(4,1,false),(5,1,false),(6,1,false),(7,1,false),(8,1,false),(9,1,false),(10,1,false),(11,1,false),(12,1,false),(13,1,false)]⟩ .lf .lf))
def ty254:TyTree:=.nd 254 ⟨5,true,.agg [.v (.map none),.v (.map none),.bl false,.v (.map none),.v (.map none)],.struct [(0,2,true),(2,1,false),(3,1,false),(4,1,false)]⟩ ty248 ty262
def ty295:TyTree:=.nd 295 ⟨1,false,.lit .i32 0,.int .i32⟩ (.nd 283 ⟨2,true,.agg [.lit .u64 0,.v (.string .empty)],.struct [(0,1,false),(1,1,false)]⟩ (.nd 281 ⟨2,true,.agg [.lit .u64 0,.v (.slice none 0 0)],.struct [(0,1,false),(1,1,false)]⟩ (.nd 275 ⟨8,true,.agg [.v (.pointer none),.v (.pointer none),.v (.slice none 0 0),.v (.slice none 0 0),.v (.pointer none),.v (.slice none 0 0),.v (.slice none 0 0),.bl false],.struct [(0,1,false),(1,1,false),(2,1,false),(3,1,false),(4,1,false),(5,1,false),(6,1,false),(7,1,false)]⟩ .lf .lf) .lf) (.nd 294 ⟨1,false,.v (.pointer none),.ptr 295⟩ (.nd 288 ⟨1,false,.v .nilIface,.iface⟩ .lf .lf) .lf)) (.nd 306 ⟨1,false,.lit .i32 0,.int .i32⟩ (.nd 299 ⟨3,true,.agg [.v (.pointer none),.v (.slice none 0 0),.v (.slice none 0 0)],.struct [(0,1,false),(1,1,false),(2,1,false)]⟩ (.nd 296 ⟨1,false,.v (.slice none 0 0),.slice 348⟩ .lf .lf) .lf) (.nd 311 ⟨5,true,.agg [.v (.pointer none),.v (.slice none 0 0),.lit .u64 0,.bl false,.lit .u64 0],.struct [(0,1,false),(1,1,false),(2,1,false),(3,1,false),(4,1,false)]⟩ .lf .lf))
def ty348:TyTree:=.nd 348 ⟨1,false,.v (.pointer none),.ptr 388⟩ (.nd 332 ⟨23,true,.agg [.bl false,.bl false,.bl false,.bl false,.bl false,.bl false,.bl false,.bl false,.bl false,.bl false,.bl false,.bl false,.bl false,.bl false,.bl false,.bl false,.bl false,.bl false,.bl false,.bl false,.bl false,.bl false,.bl false],.array 23 4⟩ (.nd 324 ⟨2,true,.agg [.lit .u64 0,.lit .u64 0],.struct [(0,1,false),(1,1,false)]⟩ (.nd 317 ⟨1,false,.v (.string .empty),.str⟩ .lf .lf) .lf) (.nd 347 ⟨2,true,.agg [.lit .i64 0,.lit .u64 0],.struct [(0,1,false),(1,1,false)]⟩ (.nd 335 ⟨1,false,.v (.slice none 0 0),.slice 4⟩ .lf .lf) .lf)) (.nd 370 ⟨1,true,.agg [.v (.string .empty)],.struct [(0,1,false)]⟩ (.nd 368 ⟨1,false,.v (.pointer none),.ptr 370⟩ (.nd 364 ⟨10,true,.agg [.v (.map none),.v (.map none),.bl false,.v (.map none),.v (.map none),.v (.map none),.v (.map none),.lit .i64 0,.lit .u64 0,.lit .u64 0],.struct [(0,9,true),(9,1,false)]⟩ .lf .lf) .lf) (.nd 382 ⟨1,false,.v (.slice none 0 0),.slice 386⟩ .lf .lf))
def ty313:TyTree:=.nd 313 ⟨12,true,.agg [.v .nilIface,.v (.pointer none),.v (.slice none 0 0),.lit .u64 0,.bl false,.lit .u64 0,.lit .u64 0,.lit .u64 0,.lit .u64 0,.lit .u64 0,.lit .u64 0,.bl false],.struct [(0,1,false),(1,5,true),(6,1,false),(7,1,false),(8,1,false),(9,1,false),(10,1,false),(11,1,false)]⟩ ty295 ty348
def ty272:TyTree:=.nd 272 ⟨1,false,.v (.pointer none),.ptr 410⟩ ty254 ty313
def ty403:TyTree:=.nd 403 ⟨1,false,.v .nilFunc,.func⟩ (.nd 396 ⟨1,false,.v (.slice none 0 0),.slice 516⟩ (.nd 389 ⟨1,false,.v .nilFunc,.func⟩ (.nd 388 ⟨2,true,.agg [.v (.pointer none),.v (.pointer none)],.struct [(0,1,false),(1,1,false)]⟩ .lf .lf) .lf) (.nd 402 ⟨1,false,.v (.slice none 0 0),.slice 403⟩ (.nd 398 ⟨4,true,.agg [.lit .i64 0,.v (.map none),.v (.slice none 0 0),.lit .u64 0],.struct [(0,1,false),(1,1,false),(2,1,false),(3,1,false)]⟩ .lf .lf) .lf)) (.nd 410 ⟨9,true,.agg [.lit .u64 0,.lit .u64 0,.lit .u64 0,.lit .u64 0,.lit .u64 0,.bl false,.bl false,.v (.pointer none),.bl false],.struct [(0,1,false),(1,1,false),(2,1,false),(3,1,false),(4,1,false),(5,1,false),(6,1,false),(7,1,false),(8,1,false)]⟩ (.nd 408 ⟨1,false,.v (.pointer none),.ptr 460⟩ (.nd 407 ⟨1,false,.lit .u64 0,.int .u64⟩ .lf .lf) .lf) (.nd 413 ⟨1,false,.v .nilFunc,.func⟩ .lf .lf))
def ty439:TyTree:=.nd 439 ⟨1,false,.v (.pointer none),.ptr 254⟩ (.nd 432 ⟨1,false,.v (.pointer none),.ptr 249⟩ (.nd 425 ⟨1,false,.lit .u64 0,.int .u64⟩ (.nd 420 ⟨1,false,.v (.pointer none),.ptr 311⟩ .lf .lf) .lf) (.nd 436 ⟨1,false,.v (.pointer none),.ptr 252⟩ (.nd 434 ⟨1,false,.v (.pointer none),.ptr 250⟩ .lf .lf) .lf)) (.nd 446 ⟨1,false,.v (.slice none 0 0),.slice 133⟩ (.nd 445 ⟨1,false,.v .nilFunc,.func⟩ (.nd 444 ⟨1,false,.v (.pointer none),.ptr 24⟩ .lf .lf) .lf) (.nd 448 ⟨1,false,.v (.pointer none),.ptr 259⟩ .lf .lf))
def ty414:TyTree:=.nd 414 ⟨0,true,.agg [],.struct []⟩ ty403 ty439
def ty473:TyTree:=.nd 473 ⟨1,false,.v (.map none),.map 22 272⟩ (.nd 460 ⟨6,true,.agg [.lit .i64 0,.lit .i64 0,.lit .u64 0,.lit .i64 0,.lit .u64 0,.v (.slice none 0 0)],.struct [(0,1,false),(1,1,false),(2,1,false),(3,1,false),(4,1,false),(5,1,false)]⟩ (.nd 458 ⟨1,false,.v (.slice none 0 0),.slice 497⟩ (.nd 453 ⟨4,true,.agg [.lit .u64 0,.lit .u64 0,.lit .u64 0,.v (.slice none 0 0)],.struct [(0,1,false),(1,2,true),(3,1,false)]⟩ .lf .lf) .lf) (.nd 471 ⟨1,false,.lit .u64 0,.int .u64⟩ (.nd 470 ⟨1,false,.v (.slice none 0 0),.slice 251⟩ .lf .lf) .lf)) (.nd 481 ⟨1,false,.lit .i64 0,.int .i64⟩ (.nd 477 ⟨1,false,.lit .u8 0,.int .u8⟩ (.nd 476 ⟨1,false,.v (.slice none 0 0),.slice 24⟩ .lf .lf) .lf) (.nd 489 ⟨1,false,.lit .u32 0,.int .u32⟩ .lf .lf))
def ty506:TyTree:=.nd 506 ⟨1,false,.v (.pointer none),.ptr 3⟩ (.nd 497 ⟨2,true,.agg [.lit .u64 0,.lit .u64 0],.struct [(0,1,false),(1,1,false)]⟩ (.nd 494 ⟨1,false,.v .nilIface,.iface⟩ (.nd 491 ⟨1,false,.v (.slice none 0 0),.slice 249⟩ .lf .lf) .lf) (.nd 503 ⟨1,false,.lit .u64 0,.int .u64⟩ .lf .lf)) (.nd 521 ⟨1,false,.v (.pointer none),.ptr 503⟩ (.nd 518 ⟨2,true,.agg [.v (.pointer none),.lit .u64 0],.struct [(0,1,false),(1,1,false)]⟩ (.nd 516 ⟨1,false,.v (.pointer none),.ptr 518⟩ .lf .lf) .lf) (.nd 526 ⟨0,true,.agg [],.struct []⟩ .lf .lf))
def ty490:TyTree:=.nd 490 ⟨1,false,.v .nilFunc,.func⟩ ty473 ty506
def ty449:TyTree:=.nd 449 ⟨7,true,.agg [.lit .u64 0,.lit .u64 0,.lit .u64 0,.lit .u64 0,.lit .u64 0,.lit .u64 0,.lit .u64 0],.array 7 22⟩ ty414 ty490
def ty386:TyTree:=.nd 386 ⟨4,true,.agg [.lit .i64 0,.bl false,.lit .u64 0,.v (.slice none 0 0)],.struct [(0,1,false),(1,1,false),(2,1,false),(3,1,false)]⟩ ty272 ty449
def ty240:TyTree:=.nd 240 ⟨1,false,.v (.pointer none),.ptr 166⟩ ty130 ty386
def EW:TyTree:=ty240
def TT (t:TypeId):Option TyI:=EW.find t
theorem I4:(EW.list.map fun x=>(Tryz.prog.info? x.1).map fun f=>(f.size,f.zero))=EW.list.map fun x=>some (x.2.n,some x.2.z.den):=by kernel_rfl
theorem G4:(EW.list.map fun x=>(isAggB Tryz.prog x.1,kindOf Tryz.prog x.1,(Tryz.prog.underlying x.1).isSome))=EW.list.map fun x=>(x.2.agg,x.2.k,true):=by kernel_rfl
theorem lJ {α β:Type} {f g:α→β}:∀{l:List α},l.map f=l.map g→∀x∈l,f x=g x
 |[],_,x,h=>by cases h
 |y::l,e,x,h=>by
  simp only[List.map_cons,List.cons.injEq] at e;rcases List.mem_cons.1 h with rfl|h
  ·exact e.1
  ·exact lJ e.2 x h
theorem EI (t:TypeId) (i:TyI) (h:TT t=some i):TyOK Tryz.prog t i:=by have hm:=TyTree.find_mem EW t i h;have h1:=lJ I4 _ hm;have h2:=lJ G4 _ hm;simp only[Option.map_eq_some_iff,Prod.mk.injEq] at h1 h2;obtain⟨f,h3,h4,h5⟩:=h1;exact⟨⟨f,h3,h4,h5⟩,h2.1,h2.2.1,h2.2.2⟩
theorem FM:(EW.list.all fun x=>match Tryz.prog.underlying x.1 with
 |some (.struct fs)=>fs.toList.all fun f=>(Tryz.prog.info? f.type).isSome&&(Tryz.prog.underlying f.type).isSome
 |_=>true)=true:=by kernel_rfl
theorem KA:sU Tryz.prog TT:=by refine⟨fun t gs ht hu f hf=>?_⟩;obtain⟨i,hi⟩:=Option.isSome_iff_exists.1 ht;have hb:=FM;rw[List.all_eq_true] at hb;have h1:=hb _ (TyTree.find_mem EW t i hi);simp only[hu,List.all_eq_true] at h1;simpa using h1 f hf
theorem MX:(EW.list.all fun x=>match Tryz.prog.info? x.1 with
 |some i=>Nat.ble i.bytes 32768
 |none=>true)=true:=by kernel_rfl
theorem vZ (t:TypeId) (i:TypeInfo) (ht:(TT t).isSome=true) (h:Tryz.prog.info? t=some i):i.bytes≤32768:=by obtain⟨i',hi⟩:=Option.isSome_iff_exists.1 ht;have hb:=MX;rw[List.all_eq_true] at hb;have h1:=hb _ (TyTree.find_mem EW t i' hi);simp only[h] at h1;exact Nat.le_of_ble_eq_true h1
def mP:nC:=[(132,"FirstIndex",163),(132,"LastIndex",164),(132,"Entries",165),(132,"InitialState",451),(132,"Term",452),(132,"Snapshot",116)]
theorem mttB:(mP.all fun x=>match Tryz.prog.info? x.1 with
 |some i=>match i.methods.find? (·.name==x.2.1) with
  |some m=>m.path.toList.isEmpty&&(match m.func with|some (f,p)=>Nat.beq f x.2.2&&p|none=>false)&&(match Tryz.prog.underlying x.1 with|some (.pointer _)=>true|_=>false)|none=>false
 |none=>false)=true:=by kernel_rfl
theorem CD:∀x∈mP,mOk Tryz.prog x:=by
 intro x hx;have hb:=mttB;rw[List.all_eq_true] at hb;have h1:=hb x hx;split at h1
 ·rename_i i hi;split at h1
  ·rename_i m hm;simp only[Bool.and_eq_true] at h1;obtain⟨⟨h2,h3⟩,h4⟩:=h1;split at h3
   ·rename_i f p hf;simp only[Bool.and_eq_true] at h3;have e:=Nat.eq_of_beq_eq_true h3.1;split at h4
    ·rename_i e' he;exact⟨i,m,e',hi,hm,by simpa using h2,by rw[hf,e,h3.2],he⟩
    ·cases h4
   ·cases h3
  ·cases h1
 ·cases h1
theorem eqT:EqT Tryz.prog:=by
 refine⟨fun t ks h=>?_⟩;unfold eqTab at h;split at h
 ·simp only[Option.some.injEq] at h;subst h;exact⟨by kernel_rfl,by kernel_rfl,by kernel_rfl,qJ _ _ _ (by kernel_rfl)⟩
 ·simp only[Option.some.injEq] at h;subst h;exact⟨by kernel_rfl,by kernel_rfl,by kernel_rfl,qJ _ _ _ (by kernel_rfl)⟩
 ·cases h
theorem xA:Tryz.prog.follows .mixedOrders=true:=by kernel_rfl
abbrev aN:=gV Tryz.prog Pay
abbrev cI (f:FuncId):Prop:=tC Tryz.prog f
def s7 (rs:List aN):Prop:=∀r∈rs,cI r.f
theorem s7.nil:s7 []:=fun _ h=>by cases h
theorem s7.cons {r:aN} {rs:List aN} (h:cI r.f) (hs:s7 rs):s7 (r::rs):=fun x hx=>by
 rcases List.mem_cons.1 hx with rfl|hx
 ·exact h
 ·exact hs x hx
def tU (t:TypeId):Bool:=match TT t with
 |some ⟨_,_,_,.map _ _⟩=>true|_=>false
structure Md where
 mm:Bool
 cl:Bool
def cU:Builtin→Bool
 |.copy=>true|_=>false
def A7 (md:Md) (rs:List aN) (o:Oper):Bool:=match o.op with
 |.call c=>match c.callee with
  |.value f=>match pM f with
   |some n=>match cN n rs with
    |some _=>false|none=>true
   |none=>!(md.cl&& !md.mm)
  |.invoke _ _=>true|.builtin b=>match cU b with
   |true=>true|false=>match b with
    |.append=>md.mm|.len=>match c.argTypes.toList with
     |[t]=>tU t|_=>false
    |_=>false
 |.makeMap _ _=>true|.lookup _ _ _ _=>true|.mapUpdate _ _ _ _=>true|.range _ _=>true|.next _ _=>true|.entry _=>true|.makeSlice _ _ _=>true|.index _ _ _=>true|.slice t _ _ hi _=>match hi with
  |none=>false|some _=>match TT t with
   |some ⟨_,_,_,.array _ _⟩=>true|_=>false
 |.indexAddr _ _ _=>md.mm&& !md.cl|.load _ _=>md.mm&& !md.cl|.store _ _ _=>md.mm&& !md.cl|_=>false
abbrev AG:=FuncId→List SV→List C→(SV→List C→Prop)→Prop
def DB (x:Operand) (σ:St Pay) (A B:Prop):Prop:=(ev x).goK σ [] fun v _=>match v with
 |.sl h _ _ _ _ _=>match σ.heap.getD h .nil with
  |.prd (.mr _ _ _ _ _ _ _ _)=>A|_=>B
 |.el h _ _ _=>match σ.heap.getD h .nil with
  |.prd (.mr _ _ _ _ _ _ _ _)=>A|_=>B
 |_=>B
theorem tI {x:Operand} {σ:St Pay} {A B:Prop} (h:DB x σ A B):A∨B:=by
 unfold DB at h;rw[bO] at h;obtain⟨v,l,_,h⟩:=h;split at h
 ·split at h
  ·exact .inl h
  ·exact .inr h
 ·split at h
  ·exact .inl h
  ·exact .inr h
 ·exact .inr h
def lS (f:Oper→Nat→(Nat→Nat)→SM Pay (Delta Pay)) (CM:mU→Int→Int→Bool) (NI:List Int→Nat→Int) (NA:iC) (MM:MF) (rs:List aN) (IN:AG) (o:Oper) (base:Nat) (σ:St Pay) (K:SV→List C→Prop):Prop:=match o.op with
 |.call c=>match c.callee with
  |.builtin b=>match cU b with
   |true=>xT TT MM c.args.toList c.argTypes.toList σ K|false=>match b with
    |.append=>sK TT CM NA MM c.args.toList c.argTypes.toList σ K|.len=>match c.args.toList,c.argTypes.toList with
     |[x],[t]=>match tU t with
      |true=>MY MM x σ K|false=>False
     |_,_=>False
    |_=>False
  |_=>tG mP rs IN base c σ K
 |.makeMap t r=>qC TT t r σ K|.lookup t x i ok=>tB TT MM t x i ok σ K|.mapUpdate t x i y=>tW TT MM t x i y σ K|.range t x=>wN TT MM t x σ K|.next x s=>CJ x s σ K|.entry x=>xN MM x σ K|.makeSlice t n c=>xJ TT CM MM t n c σ K|.index t x i=>wT TT t x i σ K|.slice t x lo hi mx=>D7 TT CM MM t x lo hi mx σ K|.indexAddr t x i=>DB x σ (DW TT CM t x i σ K) (zB (f o base) σ K)|.load t x=>DB x σ (wE TT CM NI t x σ K) (zB (f o base) σ K)|.store t p x=>DB p σ (sV TT CM MM t p x σ K) (zB (f o base) σ K)|_=>False
theorem xH {t:TypeId} (h:tU t=true):∃k e,Tryz.prog.underlying t=some (.map k e):=by
 unfold tU at h;split at h
 ·rename_i k e ht;exact⟨k,e,(aS (EI _ _ ht).kind).2.2.1 k e rfl⟩
 ·cases h
theorem LY {f:Oper→Nat→(Nat→Nat)→SM Pay (Delta Pay)} (hf:∀o base,eG Tryz.prog o (f o base)) {md:Md} {rs:List aN} (hfn:s7 rs) {IN:AG} {F:HProp} (hIN:IN=inS Tryz.prog F) (o:Oper) (base:Nat) (h:A7 md rs o=true):
  cE Tryz.prog F o (lS f cmStd dI cC bC rs IN o base):=by
 have hS:Std Tryz.prog TT arStd cmStd seStd:=⟨EI,rfl,rfl,rfl⟩;have key:∀(g:St Pay→(SV→List C→Prop)→Prop),cE Tryz.prog F o g→(∀σ K,lS f cmStd dI cC bC rs IN o base σ K→g σ K)→cE Tryz.prog F o (lS f cmStd dI cC bC rs IN o base):=
  fun g hg hh σ a w next Q K hm h=>hg σ a w next Q K hm (hh σ K h)
 cases ho:o.op with
 |call c=>
  obtain⟨callee,args,ts⟩:=c;cases callee with
  |builtin b=>
   cases b with
   |len=>
    intro σ a w next Q K hm hx
    simp only[lS,ho,cU] at hx;split at hx
    ·rename_i x t ea et;split at hx
     ·rename_i hmt;obtain⟨k,e,hu⟩:=xH hmt;obtain⟨args⟩:=args;obtain⟨ts⟩:=ts;simp only at ea et;subst ea;subst et;exact HS TT bC rfl hS o t x hu ho σ a w next Q K hm hx
     ·exact hx.elim
    ·exact hx.elim
   |copy=>exact key _ (zR TT cmStd bC rfl hS o args ts ho) fun σ K h=>by simpa only[lS,ho,cU] using h
   |append=>exact key _ (EE TT cmStd cC bC rfl rfl hS vZ o args ts ho) fun σ K h=>by simpa only[lS,ho,cU] using h
   |_=>simp[A7,ho,cU] at h
  |value v=>exact key _ (rX mP rs IN hIN CD hfn o base _ ho) fun σ K h=>by simpa only[lS,ho,cU] using h
  |invoke r m=>exact key _ (rX mP rs IN hIN CD hfn o base _ ho) fun σ K h=>by simpa only[lS,ho,cU] using h
 |makeMap t r=>exact key _ (uK TT hS o t r ho) fun σ K h=>by simpa only[lS,ho,cU] using h
 |lookup t x i ok=>exact key _ (xB TT bC rfl hS o t x i ok ho) fun σ K h=>by simpa only[lS,ho,cU] using h
 |mapUpdate t x i y=>exact key _ (wG TT bC rfl hS o t x i y ho) fun σ K h=>by simpa only[lS,ho,cU] using h
 |range t x=>exact key _ (AC TT bC rfl hS o t x ho) fun σ K h=>by simpa only[lS,ho,cU] using h
 |next x s=>exact key _ (DX o x s ho) fun σ K h=>by simpa only[lS,ho,cU] using h
 |entry x=>exact key _ (zW bC rfl o x ho) fun σ K h=>by simpa only[lS,ho,cU] using h
 |index t x i=>exact key _ (AA TT cmStd hS o t x i ho) fun σ K h=>by simpa only[lS,ho] using h
 |makeSlice t n c=>exact key _ (AS TT cmStd bC rfl hS vZ o t n c ho) fun σ K h=>by simpa only[lS,ho,cU] using h
 |slice t x lo hi mx=>exact key _ (DN TT cmStd bC rfl hS o t x lo hi mx ho) fun σ K h=>by simpa only[lS,ho,cU] using h
 |indexAddr t x i=>
  intro σ a w next Q K hm hx hout hk
  simp only[lS,ho] at hx;rcases tI hx with hx|hx
  ·exact DS TT cmStd hS o t x i ho σ a w next Q K hm hx hout hk
  ·exact pW (hf o base) σ a w next Q K hm hx hout hk
 |load t x=>
  intro σ a w next Q K hm hx hout hk
  simp only[lS,ho] at hx;rcases tI hx with hx|hx
  ·exact AB TT cmStd dI rfl hS o t x ho σ a w next Q K hm hx hout hk
  ·exact pW (hf o base) σ a w next Q K hm hx hout hk
 |store t p x=>
  intro σ a w next Q K hm hx hout hk
  simp only[lS,ho] at hx;rcases tI hx with hx|hx
  ·exact xV TT cmStd bC rfl hS o t p x ho σ a w next Q K hm hx hout hk
  ·exact pW (hf o base) σ a w next Q K hm hx hout hk
 |_=>simp[A7,ho,cU] at h
abbrev XT (md:Md) (rs:List aN) (AR:lT→IntKind→Int→Int→Int) (CM:mU→Int→Int→Bool) (SE:ByteArray→ByteArray→Bool) (NF:List FV→Nat→FV) (NI:List Int→Nat→Int) (NA:iC) (TX:TF) (MM:MF) (CK:List RD→Bool) (PV:List Nat→Nat→Bool)
  (ST:Code→St Pay→(Ex→St Pay→Prop)→Prop) (IN:AG):Code→St Pay→(Ex→St Pay→Prop)→Prop:=
 nS (nQ KF KE TT AR CM SE NF NI NA TX mP rs) (GI TT rs) (BC TT rs) CK ST PV (A7 md rs) (lS (nQ KF KE TT AR CM SE NF NI NA TX mP rs) CM NI NA MM rs IN)
abbrev EA (md:Md) (rs:List aN) (AR:lT→IntKind→Int→Int→Int) (CM:mU→Int→Int→Bool) (SE:ByteArray→ByteArray→Bool) (NF:List FV→Nat→FV) (NI:List Int→Nat→Int) (NA:iC) (TX:TF) (MM:MF) (CK:List RD→Bool) (PV:List Nat→Nat→Bool)
  (ST:Code→St Pay→(Ex→St Pay→Prop)→Prop) (IN:AG):Prop:=
 ∀{n:FuncId} {fn:Func} {code:Code} {nt:Nat} {res:List ResultVar} {args:List SV} {heap:List C} {K:SV→List C→Prop},
  Tryz.prog.funcs[n]?=some fn→fn.body=some code→dD code=true→fn.name≠ "runtime.NumGoroutine"→fn.ntmps=nt→fn.results.toList=res→
  XT md rs AR CM SE NF NI NA TX MM CK PV ST IN code ⟨args++List.replicate (nt-args.length) (.v undef),heap⟩ (uQ TT res K)→IN n args heap K
theorem KX (md:Md) (rs:TF→List aN) (hfn:∀TX,s7 (rs TX)) {fid:FuncId} {fn:Func} {code:Code} {nt:Nat} {res:List ResultVar}
  (hf:Tryz.prog.funcs[fid]?=some fn) (hb:fn.body=some code) (hok:dD code=true) (hnm:fn.name≠ "runtime.NumGoroutine") (hnt:fn.ntmps=nt) (hres:fn.results.toList=res) {args:List SV} {heap:List C} {F:HProp} {Post:SV→List C→Prop}
  (h:∀(AR:lT→IntKind→Int→Int→Int) (CM:mU→Int→Int→Bool) (SE:ByteArray→ByteArray→Bool) (NF:List FV→Nat→FV) (NI:List Int→Nat→Int) (NA:iC) (TX:TF) (MM:MF) (CK:List RD→Bool) (PV:List Nat→Nat→Bool) (ST:Code→St Pay→(Ex→St Pay→Prop)→Prop) (IN:AG),
   AR=arStd→CM=cmStd→SE=seStd→NF=nth→NI=dI→NA=cC→TX=tfStd→MM=bC→CK=fM→PV=gD→jU (nQ KF KE TT AR CM SE NF NI NA TX mP (rs TX)) (GI TT (rs TX)) (BC TT (rs TX)) CK ST PV (A7 md (rs TX)) (lS (nQ KF KE TT AR CM SE NF NI NA TX mP (rs TX)) CM NI NA MM (rs TX) IN)→gW (nQ KF KE TT AR CM SE NF NI NA TX mP (rs TX)) (GI TT (rs TX)) (BC TT (rs TX)) CK ST PV (A7 md (rs TX)) (lS (nQ KF KE TT AR CM SE NF NI NA TX mP (rs TX)) CM NI NA MM (rs TX) IN)→
   EA md (rs TX) AR CM SE NF NI NA TX MM CK PV ST IN→IN=inS Tryz.prog F→(∃(w:World) (F:HProp),sat w (star (big heap) F))→
   XT md (rs TX) AR CM SE NF NI NA TX MM CK PV ST IN code ⟨args++List.replicate (nt-args.length) (.v undef),heap⟩ (uQ TT res Post)):inS Tryz.prog F fid args heap Post:=by
 have hS:Std Tryz.prog TT arStd cmStd seStd:=⟨EI,rfl,rfl,rfl⟩;subst hnt;subst hres;have hop:∀o base,eG Tryz.prog o (nQ KF KE TT arStd cmStd seStd nth dI cC tfStd mP (rs tfStd) o base):=fun o base=>(N7 KF KE TT arStd cmStd seStd nth dI cC tfStd mP (rs tfStd) rfl rfl rfl rfl hS KA vZ eqT CD (hfn tfStd) o base).sound;have hsm:∀o base,BC TT (rs tfStd) o=false→∀β β',nQ KF KE TT arStd cmStd seStd nth dI cC tfStd mP (rs tfStd) o base β=nQ KF KE TT arStd cmStd seStd nth dI cC tfStd mP (rs tfStd) o base β':=fun o base hn β β'=>EG KF KE TT arStd cmStd seStd nth dI cC tfStd mP (rs tfStd) o base hn β β';have hxo:∀o base,A7 md (rs tfStd) o=true→cE Tryz.prog F o (lS (nQ KF KE TT arStd cmStd seStd nth dI cC tfStd mP (rs tfStd)) cmStd dI cC bC (rs tfStd) (inS Tryz.prog F) o base):=fun o base h=>LY hop (hfn tfStd) rfl o base h;have hsnd:∀{n:FuncId} {fn:Func} {code:Code} {args:List SV} {heap:List C} {K:SV→List C→Prop},
   Tryz.prog.funcs[n]?=some fn→fn.body=some code→dD code=true→fn.name≠ "runtime.NumGoroutine"→
   XT md (rs tfStd) arStd cmStd seStd nth dI cC tfStd bC fM gD (KV Tryz.prog F) (inS Tryz.prog F) code ⟨args++List.replicate (fn.ntmps-args.length) (.v undef),heap⟩ (uQ TT fn.results.toList K)→inS Tryz.prog F n args heap K:=by
  intro n fn code args heap K h1 h2 h3 h4 h5;refine⟨⟨fn,h1,by rw[h2];rfl,h4⟩,fun w hs=>?_⟩;exact CG TT arStd cmStd seStd _ _ _ fM (KV Tryz.prog F) gD _ _ xA hS hop hsm rfl rfl hxo rfl h1 h2 h3 h5 hs
 refine⟨⟨fn,hf,by rw[hb];rfl,hnm⟩,fun w hs=>(hsnd hf hb hok hnm ?_).2 w hs⟩;exact h arStd cmStd seStd nth dI cC tfStd bC fM gD (KV Tryz.prog F) (inS Tryz.prog F) rfl rfl rfl rfl rfl rfl rfl rfl rfl rfl (AN _ _ _ _ _ _ _ _ xA hop hsm rfl rfl hxo rfl) (xQ _ _ _ _ _ _ _ _ xA hop hsm rfl rfl hxo rfl)
  (fun h1 h2 h3 h4 h5 h6 h7=>by subst h5;subst h6;exact hsnd h1 h2 h3 h4 h7) rfl ⟨w,F,hs⟩
theorem inl {md:Md} {rs:List aN} {AR:lT→IntKind→Int→Int→Int} {CM:mU→Int→Int→Bool} {SE:ByteArray→ByteArray→Bool} {NF:List FV→Nat→FV} {NI:List Int→Nat→Int} {NA:iC} {TX:TF} {MM:MF} {CK:List RD→Bool} {PV:List Nat→Nat→Bool}
  {ST:Code→St Pay→(Ex→St Pay→Prop)→Prop} {IN:AG} (hI:EA md rs AR CM SE NF NI NA TX MM CK PV ST IN) {n:FuncId} {fn:Func} {code:Code} {nt:Nat} {res:List ResultVar} {args:List SV} {heap:List C} {K:SV→List C→Prop}
  (hf:Tryz.prog.funcs[n]?=some fn) (hnt:fn.ntmps=nt) (hb:fn.body=some code) (hres:fn.results.toList=res)
  (h:XT md rs AR CM SE NF NI NA TX MM CK PV ST IN code ⟨args++List.replicate (nt-args.length) (.v undef),heap⟩ (uQ TT res K))
  (hok:dD code=true:=by decide+kernel) (hnm:fn.name≠ "runtime.NumGoroutine":=by decide):IN n args heap K:=hI hf hb hok hnm hnt hres h
theorem aJ (md:Md) (rs:TF→List aN) (hfn:∀TX,s7 (rs TX)) (c:cJ Pay) {fid:FuncId} {fn:Func} {code:Code} {nt:Nat} {res:List ResultVar}
  (hf:Tryz.prog.funcs[fid]?=some fn) (hnt:fn.ntmps=nt) (hb:fn.body=some code) (hres:fn.results.toList=res)
  (h:∀(mem:Int→List Int→Bool) (hmem:mem=(fun k l=>l.contains k)) (ins:Int→List Int→List Int) (hins:ins=(fun k l=>if l.contains k then l else l++[k])) (kq:MQ→List Int) (hkq:kq=(keysq)) (adq:MQ→Int→Nat→MQ) (hadq:adq=(fun l k b=>l++[(k,b,none)])) (sti:List Int→Nat→Int→List Int) (hsti:sti=(fun l j v=>l.set j v)) (rep:Nat→List Int) (hrep:rep=(fun n=>List.replicate n 0)) (tk:List Int→Nat→List Int) (htk:tk=(fun l n=>l.take n)) (bi:List UInt8→List Int) (hbi:bi=(fun l=>l.map fun c=>(c.toNat:Int))) (op:MQ→Int→Nat→MQ→MQ) (hop:op=(fun l1 n b l2=>l1++(n,b,none)::l2)) (sn:List Int→Int→List Int) (hsn:sn=(fun l v=>l++[v])) (ln:List Int→Nat) (hln:ln=(fun l=>l.length)) (df:List FV→Nat→Nat→Nat→List FV) (hdf:df=(fun l lo hi sz=>(l.drop (lo*sz)).take ((hi-lo)*sz))) (di:List Int→Nat→Nat→List Int) (hdi:di=(fun l lo hi=>(l.drop lo).take (hi-lo))) (ji:List Int→List Int→List Int) (hji:ji=(fun l l'=>l++l')) (jf:List FV→List FV→List FV) (hjf:jf=(fun l l'=>l++l')) (ns:Nat→Nat→Nat) (hns:ns=(fun a b=>a-b)) (NI:List Int→Nat→Int) (hNI:NI=(dI)) (NF:List FV→Nat→FV) (hNF:NF=(nth)) (SE:ByteArray→ByteArray→Bool) (hE:SE=(seStd)) (mu:Nat→Nat→Nat) (hmu:mu=(fun a b=>a*b)) (TX:TF) (hTX:TX=(tfStd)) (na:Nat→Nat→Nat) (hna:na=(fun a b=>a+b)) (AR:lT→IntKind→Int→Int→Int) (hA:AR=(arStd)) (CM:mU→Int→Int→Bool) (hC:CM=(cmStd)) (CK:List RD→Bool) (hK:CK=(fM)) (PV:List Nat→Nat→Bool) (hV:PV=(gD)) (ST:Code→St Pay→(Ex→St Pay→Prop)→Prop) (IN:AG) (hU:gW (nQ KF KE TT AR CM SE NF NI (iC.mk na ns df di jf ji mu) TX mP (rs TX)) (GI TT (rs TX)) (BC TT (rs TX)) CK ST PV (A7 md (rs TX)) (lS (nQ KF KE TT AR CM SE NF NI (iC.mk na ns df di jf ji mu) TX mP (rs TX)) CM NI (iC.mk na ns df di jf ji mu) (MF.mk mem ins kq adq ln sti rep sn tk bi op) (rs TX) IN)) (hI:EA md (rs TX) AR CM SE NF NI (iC.mk na ns df di jf ji mu) TX (MF.mk mem ins kq adq ln sti rep sn tk bi op) CK PV ST IN) (hL:jU (nQ KF KE TT AR CM SE NF NI (iC.mk na ns df di jf ji mu) TX mP (rs TX)) (GI TT (rs TX)) (BC TT (rs TX)) CK ST PV (A7 md (rs TX)) (lS (nQ KF KE TT AR CM SE NF NI (iC.mk na ns df di jf ji mu) TX mP (rs TX)) CM NI (iC.mk na ns df di jf ji mu) (MF.mk mem ins kq adq ln sti rep sn tk bi op) (rs TX) IN)) (Post:SV→List C→Prop) (x:c.X) (FR:HProp) (hN:IN=inS Tryz.prog FR) (ho:c.obl x) (hsat:∃(w:World) (F:HProp),sat w (star (big (c.pre x)) F))
   (hP:∀(β:Nat→Nat) (plan:iZ) (v:SV) (hp:List C),m9 plan=true→Fin c x β plan v hp→Post v hp),XT md (rs TX) AR CM SE NF NI (iC.mk na ns df di jf ji mu) TX (MF.mk mem ins kq adq ln sti rep sn tk bi op) CK PV ST IN code ⟨c.args x++List.replicate (nt-(c.args x).length) (.v undef),c.pre x⟩ (uQ TT res Post))
  (hok:dD code=true:=by decide+kernel) (hnm:fn.name≠ "runtime.NumGoroutine":=by decide):c.ok Tryz.prog fid:=by
 intro x F w ho hs
 have:=(KX md rs hfn hf hb hok hnm hnt hres (args:=c.args x) (heap:=c.pre x) (F:=F) (Post:=fun v hp=>∃β plan,m9 plan=true∧Fin c x β plan v hp) (fun AR CM SE NF NI NA TX MM CK PV ST IN hA hC hE hNF hNI hNA hTX hMM hK hV hL hU hI hN hsat=>by
  obtain⟨na,ns,df,di,jf,ji,mu⟩:=NA;obtain⟨hna,hns,hdf,hdi,hjf,hji,hmu⟩:=EL hNA;obtain⟨mem,ins,kq,adq,ln,sti,rep,sn,tk,bi,op⟩:=MM;obtain⟨hmem,hins,hkq,hadq,hln,hsti,hrep,hsn,htk,hbi,hop⟩:=KU hMM
  exact h mem hmem ins hins kq hkq adq hadq sti hsti rep hrep tk htk bi hbi op hop sn hsn ln hln df hdf di hdi ji hji jf hjf ns hns NI hNI NF hNF SE hE mu hmu TX hTX na hna AR hA CM hC CK hK PV hV ST IN hU hI hL _ x F hN ho hsat (fun β plan v hp h1 h2=>⟨β,plan,h1,h2⟩))).2 w hs
 refine this.mono fun e w' hR=>?_;rcases hR with h1|⟨v,hp,⟨β,plan,h1,h2⟩,h3,h4⟩
 ·exact .inl h1
 ·exact .inr ⟨β,h2.1,by rw[h3,h2.2.1],E4 h2 h1 h4⟩
abbrev r0:List aN:=[]
theorem cA {c:cJ Pay} {fid:FuncId} {fn:Func} {code:Code} {nt:Nat} {res:List ResultVar}
  (hf:Tryz.prog.funcs[fid]?=some fn) (hnt:fn.ntmps=nt) (hb:fn.body=some code) (hres:fn.results.toList=res)
  (h:∀(mem:Int→List Int→Bool) (hmem:mem=(fun k l=>l.contains k)) (ins:Int→List Int→List Int) (hins:ins=(fun k l=>if l.contains k then l else l++[k])) (kq:MQ→List Int) (hkq:kq=(keysq)) (adq:MQ→Int→Nat→MQ) (hadq:adq=(fun l k b=>l++[(k,b,none)])) (sti:List Int→Nat→Int→List Int) (hsti:sti=(fun l j v=>l.set j v)) (rep:Nat→List Int) (hrep:rep=(fun n=>List.replicate n 0)) (tk:List Int→Nat→List Int) (htk:tk=(fun l n=>l.take n)) (bi:List UInt8→List Int) (hbi:bi=(fun l=>l.map fun c=>(c.toNat:Int))) (op:MQ→Int→Nat→MQ→MQ) (hop:op=(fun l1 n b l2=>l1++(n,b,none)::l2)) (sn:List Int→Int→List Int) (hsn:sn=(fun l v=>l++[v])) (ln:List Int→Nat) (hln:ln=(fun l=>l.length)) (df:List FV→Nat→Nat→Nat→List FV) (hdf:df=(fun l lo hi sz=>(l.drop (lo*sz)).take ((hi-lo)*sz))) (di:List Int→Nat→Nat→List Int) (hdi:di=(fun l lo hi=>(l.drop lo).take (hi-lo))) (ji:List Int→List Int→List Int) (hji:ji=(fun l l'=>l++l')) (jf:List FV→List FV→List FV) (hjf:jf=(fun l l'=>l++l')) (ns:Nat→Nat→Nat) (hns:ns=(fun a b=>a-b)) (NI:List Int→Nat→Int) (hNI:NI=(dI)) (NF:List FV→Nat→FV) (hNF:NF=(nth)) (SE:ByteArray→ByteArray→Bool) (hE:SE=(seStd)) (mu:Nat→Nat→Nat) (hmu:mu=(fun a b=>a*b)) (TX:TF) (hTX:TX=(tfStd)) (na:Nat→Nat→Nat) (hna:na=(fun a b=>a+b)) (AR:lT→IntKind→Int→Int→Int) (hA:AR=(arStd)) (CM:mU→Int→Int→Bool) (hC:CM=(cmStd)) (CK:List RD→Bool) (hK:CK=(fM)) (PV:List Nat→Nat→Bool) (hV:PV=(gD)) (ST:Code→St Pay→(Ex→St Pay→Prop)→Prop) (IN:AG) (hU:gW (nQ KF KE TT AR CM SE NF NI (iC.mk na ns df di jf ji mu) TX mP r0) (GI TT r0) (BC TT r0) CK ST PV (A7 ⟨false,false⟩ r0) (lS (nQ KF KE TT AR CM SE NF NI (iC.mk na ns df di jf ji mu) TX mP r0) CM NI (iC.mk na ns df di jf ji mu) (MF.mk mem ins kq adq ln sti rep sn tk bi op) r0 IN)) (hI:EA ⟨false,false⟩ r0 AR CM SE NF NI (iC.mk na ns df di jf ji mu) TX (MF.mk mem ins kq adq ln sti rep sn tk bi op) CK PV ST IN) (hL:jU (nQ KF KE TT AR CM SE NF NI (iC.mk na ns df di jf ji mu) TX mP r0) (GI TT r0) (BC TT r0) CK ST PV (A7 ⟨false,false⟩ r0) (lS (nQ KF KE TT AR CM SE NF NI (iC.mk na ns df di jf ji mu) TX mP r0) CM NI (iC.mk na ns df di jf ji mu) (MF.mk mem ins kq adq ln sti rep sn tk bi op) r0 IN)) (Post:SV→List C→Prop) (x:c.X) (hP:∀(β:Nat→Nat) (plan:iZ) (v:SV) (hp:List C),m9 plan=true→Fin c x β plan v hp→Post v hp),XT ⟨false,false⟩ r0 AR CM SE NF NI (iC.mk na ns df di jf ji mu) TX (MF.mk mem ins kq adq ln sti rep sn tk bi op) CK PV ST IN code ⟨c.args x++List.replicate (nt-(c.args x).length) (.v undef),c.pre x⟩ (uQ TT res Post))
  (hok:dD code=true:=by decide+kernel) (hnm:fn.name≠ "runtime.NumGoroutine":=by decide):c.ok Tryz.prog fid:=
 aJ ⟨false,false⟩ (fun _=>[]) (fun _=>.nil) c hf hnt hb hres (fun mem hmem ins hins kq hkq adq hadq sti hsti rep hrep tk htk bi hbi op hop sn hsn ln hln df hdf di hdi ji hji jf hjf ns hns NI hNI NF hNF SE hE mu hmu TX hTX na hna AR hA CM hC CK hK PV hV ST IN hU hI hL Post x FR hN ho hsat hP=>h mem hmem ins hins kq hkq adq hadq sti hsti rep hrep tk htk bi hbi op hop sn hsn ln hln df hdf di hdi ji hji jf hjf ns hns NI hNI NF hNF SE hE mu hmu TX hTX na hna AR hA CM hC CK hK PV hV ST IN hU hI hL Post x hP) hok hnm
theorem y6 {f:List RD→Bool} {l:List RD} (h:f=fM) (h2:fM l=true):f l=true:=by rw[h];exact h2
theorem y7 {f:List Nat→Nat→Bool} {a:List Nat} {b:Nat} (h:f=gD) (h2:gD a b=true):f a b=true:=by rw[h];exact h2
theorem O5 {p:Prop} (h:p:=by first|(with_reducible exact trivial)|(with_reducible exact rfl)|assumption|exact y6 (by assumption) (by decide+kernel)|exact y7 (by assumption) (by decide+kernel)):p:=h
theorem O4 {a b:Prop} (h:a) (k:b):a∧b:=⟨h,k⟩
theorem bM {p:Prop} (h:p:=by cbv;first|done|simp):p:=h
theorem O6 {p:Prop} (h:p:=by(have e:=(by assumption:_=cmStd);rw[e];simp only[cmStd,decide_eq_true_eq,decide_eq_false_iff_not,Int.ofNat_eq_natCast];first|omega|(simp;done)|(simp;omega)|rfl)):p:=h
theorem O7 {p:Prop} (h:p:=by(have e:=(by assumption:_=arStd);rw[e];first|(simp only[arStd,IntKind.wrap_u64,IntKind.wrap_i64,Int.ofNat_eq_natCast];omega)|(show IntKind.u64.wrap _=_;rw[IntKind.wrap_u64];simp only[Int.ofNat_eq_natCast];omega)|(show IntKind.i64.wrap _=_;rw[IntKind.wrap_i64];simp only[Int.ofNat_eq_natCast];omega))):p:=h
def G3 (ps:List Nat) (n:Nat) (p:Nat):Nat:=match ps[p]? with
 |some q=>q|none=>n+(p-ps.length)
def jP (g:Nat→Nat):List Nat→List C→List C→List C
 |[],L,hp=>L++hp.map (Cel.rl g)|p::ps,L,c::hp=>jP g ps (L.set p (c.rl g)) hp|p::ps,L,[]=>jP g ps (L.set p .nil) []
theorem Cel.rl_den (g:Nat→Nat) (c:C):(c.rl g).den=c.den:=(Same.rl g c).den
theorem DI (g:Nat→Nat):∀L:List C,big (L.map (Cel.rl g))=big L
 |[]=>rfl|c::L=>by simp only[List.map_cons,big,Cel.rl_den,DI g L]
theorem sM (ps:List Nat):∀(L:List C) (p:Nat) (c:C),p∉ps→dF ps (L.set p c)=(dF ps L).set p c:=by
 induction ps with
 |nil=>intro L p c _;rfl|cons q ps ih=>intro L p c h;simp only[List.mem_cons,not_or] at h;show dF ps ((L.set p c).set q .nil)=(dF ps (L.set q .nil)).set p c;rw[List.set_comm _ _ h.1,ih _ _ _ h.2]
theorem tF (ps:List Nat):∀(L:List C),(dF ps L).length=L.length:=by
 induction ps with
 |nil=>intro L;rfl|cons q ps ih=>intro L;show (dF ps (L.set q .nil)).length=_;rw[ih];simp
theorem nB (g:Nat→Nat):∀(ps:List Nat) (L:List C) (hp:List C),ps.Nodup→(∀p∈ps,p<L.length)→big (jP g ps L hp)=star (big hp) (big (dF ps L))
 |[],L,hp,_,_=>by simp only[jP,bF,DI,dF,List.foldl_nil];exact fV _ _
 |p::ps,L,c::hp,hn,hl=>by
  have hn:=List.nodup_cons.1 hn;simp only[jP];rw[nB g ps _ hp hn.2 (fun q hq=>by simpa using hl q (List.mem_cons_of_mem _ hq)),sM ps L p _ hn.1];have hlt:p<(dF ps L).length:=by rw[tF];exact hl p (List.mem_cons_self ..)
  rw[dW _ _ _ hlt,Cel.rl_den];show _=star (star c.den (big hp)) (big (dF ps (L.set p .nil)));rw[sM ps L p _ hn.1];ac_rfl
 |p::ps,L,[],hn,hl=>by have hn:=List.nodup_cons.1 hn;simp only[jP];rw[nB g ps _ [] hn.2 (fun q hq=>by simpa using hl q (List.mem_cons_of_mem _ hq))];rfl
theorem BP {P:Program} {F:HProp} {n:FuncId} {args args':List SV} {heap cells:List C} {K:SV→List C→Prop} (ps:List Nat) (hnd:gK ps=true) (hlt:(ps.all fun p=>Nat.blt p heap.length)=true)
  (ha:l6 args args') (hc:jS (ps.map fun p=>heap.getD p .nil) cells)
  (h:∀F',inS P F' n args' cells fun v hp=>K (v.rl (G3 ps heap.length)) (jP (G3 ps heap.length) ps heap hp)):inS P F n args heap K:=by
 have hnd2:=gM hnd;have hlt':∀p∈ps,p<heap.length:=fun p hp=>Nat.le_of_ble_eq_true (List.all_eq_true.1 hlt p hp);have hcells:big cells=cZ heap ps:=by
  clear h hlt hlt' hnd2 hnd ha;induction ps generalizing cells with
  |nil=>
   cases cells with
   |nil=>rfl|cons c cs=>exact hc.elim
  |cons p ps ih=>
   cases cells with
   |nil=>exact hc.elim|cons c cs=>simp only[big,cZ];rw[ih hc.2,(lN hc.1).den]
 have h1:=h (star (big (dF ps heap)) F);refine⟨h1.1,fun w hs=>?_⟩;unfold l6 at ha;rw[ha];rw[kP ps heap hnd2,←hcells,aA] at hs;refine(h1.2 w hs).mono fun e w' hR=>?_;rcases hR with h2|⟨v,hp,h2,h3,h4⟩
 ·exact .inl h2
 ·refine .inr ⟨_,_,h2,by rw[h3,SV.den_rl],?_⟩;rw[nB _ ps heap hp hnd2 hlt',aA];exact h4
theorem aF (md:Md) (rs:TF→List aN) (hfn:∀TX,s7 (rs TX)) {fid:FuncId} {fn:Func} {code:Code} {nt:Nat} {res:List ResultVar} {F:HProp}
  (hf:Tryz.prog.funcs[fid]?=some fn) (hnt:fn.ntmps=nt) (hb:fn.body=some code) (hres:fn.results.toList=res) {args:List SV} {cells:List C} {K:SV→List C→Prop}
  (h:∀(mem:Int→List Int→Bool) (hmem:mem=(fun k l=>l.contains k)) (ins:Int→List Int→List Int) (hins:ins=(fun k l=>if l.contains k then l else l++[k])) (kq:MQ→List Int) (hkq:kq=(keysq)) (adq:MQ→Int→Nat→MQ) (hadq:adq=(fun l k b=>l++[(k,b,none)])) (sti:List Int→Nat→Int→List Int) (hsti:sti=(fun l j v=>l.set j v)) (rep:Nat→List Int) (hrep:rep=(fun n=>List.replicate n 0)) (tk:List Int→Nat→List Int) (htk:tk=(fun l n=>l.take n)) (bi:List UInt8→List Int) (hbi:bi=(fun l=>l.map fun c=>(c.toNat:Int))) (op:MQ→Int→Nat→MQ→MQ) (hop:op=(fun l1 n b l2=>l1++(n,b,none)::l2)) (sn:List Int→Int→List Int) (hsn:sn=(fun l v=>l++[v])) (ln:List Int→Nat) (hln:ln=(fun l=>l.length)) (df:List FV→Nat→Nat→Nat→List FV) (hdf:df=(fun l lo hi sz=>(l.drop (lo*sz)).take ((hi-lo)*sz))) (di:List Int→Nat→Nat→List Int) (hdi:di=(fun l lo hi=>(l.drop lo).take (hi-lo))) (ji:List Int→List Int→List Int) (hji:ji=(fun l l'=>l++l')) (jf:List FV→List FV→List FV) (hjf:jf=(fun l l'=>l++l')) (ns:Nat→Nat→Nat) (hns:ns=(fun a b=>a-b)) (NI:List Int→Nat→Int) (hNI:NI=(dI)) (NF:List FV→Nat→FV) (hNF:NF=(nth)) (SE:ByteArray→ByteArray→Bool) (hE:SE=(seStd)) (mu:Nat→Nat→Nat) (hmu:mu=(fun a b=>a*b)) (TX:TF) (hTX:TX=(tfStd)) (na:Nat→Nat→Nat) (hna:na=(fun a b=>a+b)) (AR:lT→IntKind→Int→Int→Int) (hA:AR=(arStd)) (CM:mU→Int→Int→Bool) (hC:CM=(cmStd)) (CK:List RD→Bool) (hK:CK=(fM)) (PV:List Nat→Nat→Bool) (hV:PV=(gD)) (ST:Code→St Pay→(Ex→St Pay→Prop)→Prop) (IN:AG) (hU:gW (nQ KF KE TT AR CM SE NF NI (iC.mk na ns df di jf ji mu) TX mP (rs TX)) (GI TT (rs TX)) (BC TT (rs TX)) CK ST PV (A7 md (rs TX)) (lS (nQ KF KE TT AR CM SE NF NI (iC.mk na ns df di jf ji mu) TX mP (rs TX)) CM NI (iC.mk na ns df di jf ji mu) (MF.mk mem ins kq adq ln sti rep sn tk bi op) (rs TX) IN)) (hI:EA md (rs TX) AR CM SE NF NI (iC.mk na ns df di jf ji mu) TX (MF.mk mem ins kq adq ln sti rep sn tk bi op) CK PV ST IN) (hL:jU (nQ KF KE TT AR CM SE NF NI (iC.mk na ns df di jf ji mu) TX mP (rs TX)) (GI TT (rs TX)) (BC TT (rs TX)) CK ST PV (A7 md (rs TX)) (lS (nQ KF KE TT AR CM SE NF NI (iC.mk na ns df di jf ji mu) TX mP (rs TX)) CM NI (iC.mk na ns df di jf ji mu) (MF.mk mem ins kq adq ln sti rep sn tk bi op) (rs TX) IN)) (Post:SV→List C→Prop) (hN:IN=inS Tryz.prog F) (hsat:∃(w:World) (F:HProp),sat w (star (big cells) F))
   (hP:∀(plan:iZ) (v v':SV) (hp post:List C),v.den=v'.den→gK (dQ plan)=true→dS hp (puts (cY hp plan post) hp) plan post→K v' post→Post v hp),XT md (rs TX) AR CM SE NF NI (iC.mk na ns df di jf ji mu) TX (MF.mk mem ins kq adq ln sti rep sn tk bi op) CK PV ST IN code ⟨args++List.replicate (nt-args.length) (.v undef),cells⟩ (uQ TT res Post))
  (hok:dD code=true:=by decide+kernel) (hnm:fn.name≠ "runtime.NumGoroutine":=by decide):inS Tryz.prog F fid args cells K:=by
 have h0:=KX md rs hfn hf hb hok hnm hnt hres (args:=args) (heap:=cells) (F:=F) (Post:=fun v hp=>∃plan v' post,v.den=v'.den∧gK (dQ plan)=true∧dS hp (puts (cY hp plan post) hp) plan post∧K v' post) (fun AR CM SE NF NI NA TX MM CK PV ST IN hA hC hE hNF hNI hNA hTX hMM hK hV hL hU hI hN hsat=>by
  obtain⟨na,ns,df,di,jf,ji,mu⟩:=NA;obtain⟨hna,hns,hdf,hdi,hjf,hji,hmu⟩:=EL hNA;obtain⟨mem,ins,kq,adq,ln,sti,rep,sn,tk,bi,op⟩:=MM;obtain⟨hmem,hins,hkq,hadq,hln,hsti,hrep,hsn,htk,hbi,hop⟩:=KU hMM
  exact h mem hmem ins hins kq hkq adq hadq sti hsti rep hrep tk htk bi hbi op hop sn hsn ln hln df hdf di hdi ji hji jf hjf ns hns NI hNI NF hNF SE hE mu hmu TX hTX na hna AR hA CM hC CK hK PV hV ST IN hU hI hL _ hN hsat (fun plan v v' hp post a b c d=>⟨plan,v',post,a,b,c,d⟩))
 refine⟨h0.1,fun w hs=>(h0.2 w hs).mono fun e w' hR=>?_⟩;rcases hR with h1|⟨v,hp,⟨plan,v',post,a,b,c,d⟩,h3,h4⟩
 ·exact .inl h1
 ·exact .inr ⟨v',post,d,by rw[h3,a],qP b c rfl h4⟩
theorem mQ {P:Program} {IN:AG} {F:HProp} (hN:IN=inS P F) {n:FuncId} {args:List SV} {heap:List C} {K:SV→List C→Prop} (p q:Nat) (c:C) (hpq:Nat.beq p q=false) (hp:Nat.blt p heap.length=true) (hq:Nat.blt q heap.length=true)
  (hE:eF [heap.getD p .nil,heap.getD q .nil] c) (h:IN n args ((heap.set q .free).set p c) K):IN n args heap K:=by
 subst hN;have hp:=Nat.le_of_ble_eq_true hp;have hq:=Nat.le_of_ble_eq_true hq;have hpq:=Nat.ne_of_beq_eq_false hpq;refine inS.view h rfl fun w hs=>?_;have e1:big heap=star ((heap.getD q .nil).den) (star ((heap.getD p .nil).den) (big ((heap.set q .nil).set p .nil))):=by rw[bV heap q,bV (heap.set q .nil) p,gP (Ne.symm hpq)]
 have e2:big ((heap.set q .free).set p c)=star c.den (big ((heap.set q .nil).set p .nil)):=by rw[dW _ _ _ (by rw[List.length_set];exact hp),List.set_comm _ _ (Ne.symm hpq),dW _ _ _ (by rw[List.length_set];exact hq),List.set_comm _ _ hpq];show star c.den (star emp _)=_;rw[aH]
 have e3:=hE.ent w (star (big ((heap.set q .nil).set p .nil)) F);simp only[big,aO] at e3;rw[e2,aA];refine e3 ?_;rw[e1] at hs;exact aI hs (by ac_rfl)
theorem aD {P:Program} {IN:AG} {F:HProp} (hN:IN=inS P F) {n:FuncId} {args args':List SV} {heap cells:List C} {K:SV→List C→Prop} (ps:List Nat) (hnd:gK ps=true) (hlt:(ps.all fun p=>Nat.blt p heap.length)=true)
  (ha:l6 args args') (hc:jS (ps.map fun p=>heap.getD p .nil) cells)
  (h:∀F',inS P F' n args' cells fun v hp=>K (v.rl (G3 ps heap.length)) (jP (G3 ps heap.length) ps heap hp)):IN n args heap K:=by
 subst hN;exact BP ps hnd hlt ha hc h
inductive DA (k:Int):Prop where
 |mk (h:k=3∨k=4∨k=5∨k=6∨k=8∨k=9)
def respB (k:Int):Bool:=k==4||k==6||k==9
def JT:cJ Pay where
 X:=Int
 args:=fun k=>[.i .i32 k]
 pre:=fun _=>[]
 obl:=fun k=>DA k
 res:=fun _ _=>.bl false
theorem GW:JT.ok Tryz.prog 141:=by
 refine aJ ⟨false,false⟩ (fun _=>[]) (fun _=>.nil) _ Tryz.func141 Tryz.ntmps141 rfl rfl ?_;intros;rename_i AR hA CM _ _ _ _ _ _ _ _ hI _ _ x _ _ ho _ hP;change Int at x;obtain⟨h⟩:=ho;rcases h with h|h|h|h|h|h<;>subst h
 ·
   have a1:AR .conv .i64 3 0=3:=by rw[hA];rfl
   have c1:CM .lt 3 (Int.ofNat 23)=true:=O6;have c2:CM .lt 3 23=true:=O6;have c3:CM .le 0 3=true:=O6;have c4:CM .lt 0 23=true:=O6;cbv;repeat' first|exact O5|intro β;cbv|apply O4
   refine inl @hI Tryz.func192 Tryz.ntmps192 rfl rfl ?_;cbv;repeat' first|exact O5|intro β;cbv|apply O4
   repeat (any_goals (simp only[a1,c1,c2];try (cbv;repeat' first|exact O5|intro β;cbv|apply O4)))
   refine inl @hI Tryz.func193 Tryz.ntmps193 rfl rfl ?_;cbv;repeat' first|exact O5|intro β;cbv|apply O4
   repeat (any_goals (simp only[a1,c1,c2];try (cbv;repeat' first|exact O5|intro β;cbv|apply O4)))
   ·exact Int.NonNeg.mk _
   exact hP (fun _=>0) [] _ _ rfl bM
 ·
   have a1:AR .conv .i64 4 0=4:=by rw[hA];rfl
   have c1:CM .lt 4 (Int.ofNat 23)=true:=O6;have c2:CM .lt 4 23=true:=O6;have c3:CM .le 0 4=true:=O6;have c4:CM .lt 0 23=true:=O6;cbv;repeat' first|exact O5|intro β;cbv|apply O4
   refine inl @hI Tryz.func192 Tryz.ntmps192 rfl rfl ?_;cbv;repeat' first|exact O5|intro β;cbv|apply O4
   repeat (any_goals (simp only[a1,c1,c2];try (cbv;repeat' first|exact O5|intro β;cbv|apply O4)))
   refine inl @hI Tryz.func193 Tryz.ntmps193 rfl rfl ?_;cbv;repeat' first|exact O5|intro β;cbv|apply O4
   repeat (any_goals (simp only[a1,c1,c2];try (cbv;repeat' first|exact O5|intro β;cbv|apply O4)))
   ·exact Int.NonNeg.mk _
   exact hP (fun _=>0) [] _ _ rfl bM
 ·
   have a1:AR .conv .i64 5 0=5:=by rw[hA];rfl
   have c1:CM .lt 5 (Int.ofNat 23)=true:=O6;have c2:CM .lt 5 23=true:=O6;have c3:CM .le 0 5=true:=O6;have c4:CM .lt 0 23=true:=O6;cbv;repeat' first|exact O5|intro β;cbv|apply O4
   refine inl @hI Tryz.func192 Tryz.ntmps192 rfl rfl ?_;cbv;repeat' first|exact O5|intro β;cbv|apply O4
   repeat (any_goals (simp only[a1,c1,c2];try (cbv;repeat' first|exact O5|intro β;cbv|apply O4)))
   refine inl @hI Tryz.func193 Tryz.ntmps193 rfl rfl ?_;cbv;repeat' first|exact O5|intro β;cbv|apply O4
   repeat (any_goals (simp only[a1,c1,c2];try (cbv;repeat' first|exact O5|intro β;cbv|apply O4)))
   ·exact Int.NonNeg.mk _
   exact hP (fun _=>0) [] _ _ rfl bM
 ·
   have a1:AR .conv .i64 6 0=6:=by rw[hA];rfl
   have c1:CM .lt 6 (Int.ofNat 23)=true:=O6;have c2:CM .lt 6 23=true:=O6;have c3:CM .le 0 6=true:=O6;have c4:CM .lt 0 23=true:=O6;cbv;repeat' first|exact O5|intro β;cbv|apply O4
   refine inl @hI Tryz.func192 Tryz.ntmps192 rfl rfl ?_;cbv;repeat' first|exact O5|intro β;cbv|apply O4
   repeat (any_goals (simp only[a1,c1,c2];try (cbv;repeat' first|exact O5|intro β;cbv|apply O4)))
   refine inl @hI Tryz.func193 Tryz.ntmps193 rfl rfl ?_;cbv;repeat' first|exact O5|intro β;cbv|apply O4
   repeat (any_goals (simp only[a1,c1,c2];try (cbv;repeat' first|exact O5|intro β;cbv|apply O4)))
   ·exact Int.NonNeg.mk _
   exact hP (fun _=>0) [] _ _ rfl bM
 ·
   have a1:AR .conv .i64 8 0=8:=by rw[hA];rfl
   have c1:CM .lt 8 (Int.ofNat 23)=true:=O6;have c2:CM .lt 8 23=true:=O6;have c3:CM .le 0 8=true:=O6;have c4:CM .lt 0 23=true:=O6;cbv;repeat' first|exact O5|intro β;cbv|apply O4
   refine inl @hI Tryz.func192 Tryz.ntmps192 rfl rfl ?_;cbv;repeat' first|exact O5|intro β;cbv|apply O4
   repeat (any_goals (simp only[a1,c1,c2];try (cbv;repeat' first|exact O5|intro β;cbv|apply O4)))
   refine inl @hI Tryz.func193 Tryz.ntmps193 rfl rfl ?_;cbv;repeat' first|exact O5|intro β;cbv|apply O4
   repeat (any_goals (simp only[a1,c1,c2];try (cbv;repeat' first|exact O5|intro β;cbv|apply O4)))
   ·exact Int.NonNeg.mk _
   exact hP (fun _=>0) [] _ _ rfl bM
 ·
   have a1:AR .conv .i64 9 0=9:=by rw[hA];rfl
   have c1:CM .lt 9 (Int.ofNat 23)=true:=O6;have c2:CM .lt 9 23=true:=O6;have c3:CM .le 0 9=true:=O6;have c4:CM .lt 0 23=true:=O6;cbv;repeat' first|exact O5|intro β;cbv|apply O4
   refine inl @hI Tryz.func192 Tryz.ntmps192 rfl rfl ?_;cbv;repeat' first|exact O5|intro β;cbv|apply O4
   repeat (any_goals (simp only[a1,c1,c2];try (cbv;repeat' first|exact O5|intro β;cbv|apply O4)))
   refine inl @hI Tryz.func193 Tryz.ntmps193 rfl rfl ?_;cbv;repeat' first|exact O5|intro β;cbv|apply O4
   repeat (any_goals (simp only[a1,c1,c2];try (cbv;repeat' first|exact O5|intro β;cbv|apply O4)))
   ·exact Int.NonNeg.mk _
   exact hP (fun _=>0) [] _ _ rfl bM
def m141 (args:List SV):SM Pay (JT.X×List Nat):=match args with
 |[n]=>match bG n with
  |some (_,_,n)=>.ret (n,[])|none=>.fail
 |_=>.fail
theorem x141:cI 141:=⟨_,Tryz.func141,rfl,by decide⟩
def r141:aN:=⟨141,0,false,JT.app m141,JT.app_ok GW m141,fun _ args base β β'=>rfl⟩
def F4:cJ Pay where
 X:=Int
 args:=fun k=>[.i .i32 k]
 pre:=fun _=>[]
 obl:=fun k=>DA k
 res:=fun k _=>.bl (respB k)
theorem O8:F4.ok Tryz.prog 145:=by
 refine aJ ⟨false,false⟩ (fun _=>[]) (fun _=>.nil) _ Tryz.func145 Tryz.ntmps145 rfl rfl ?_;intros;rename_i AR hA CM _ _ _ _ _ _ _ _ hI _ _ x _ _ ho _ hP;change Int at x;obtain⟨h⟩:=ho;rcases h with h|h|h|h|h|h<;>subst h
 ·
   have a1:AR .conv .i64 3 0=3:=by rw[hA];rfl
   have c1:CM .lt 3 (Int.ofNat 23)=true:=O6;have c2:CM .lt 3 23=true:=O6;have c3:CM .le 0 3=true:=O6;have c4:CM .lt 0 23=true:=O6;cbv;repeat' first|exact O5|intro β;cbv|apply O4
   refine inl @hI Tryz.func194 Tryz.ntmps194 rfl rfl ?_;cbv;repeat' first|exact O5|intro β;cbv|apply O4
   repeat (any_goals (simp only[a1,c1,c2];try (cbv;repeat' first|exact O5|intro β;cbv|apply O4)))
   refine inl @hI Tryz.func193 Tryz.ntmps193 rfl rfl ?_;cbv;repeat' first|exact O5|intro β;cbv|apply O4
   repeat (any_goals (simp only[a1,c1,c2];try (cbv;repeat' first|exact O5|intro β;cbv|apply O4)))
   ·exact Int.NonNeg.mk _
   exact hP (fun _=>0) [] _ _ rfl bM
 ·
   have a1:AR .conv .i64 4 0=4:=by rw[hA];rfl
   have c1:CM .lt 4 (Int.ofNat 23)=true:=O6;have c2:CM .lt 4 23=true:=O6;have c3:CM .le 0 4=true:=O6;have c4:CM .lt 0 23=true:=O6;cbv;repeat' first|exact O5|intro β;cbv|apply O4
   refine inl @hI Tryz.func194 Tryz.ntmps194 rfl rfl ?_;cbv;repeat' first|exact O5|intro β;cbv|apply O4
   repeat (any_goals (simp only[a1,c1,c2];try (cbv;repeat' first|exact O5|intro β;cbv|apply O4)))
   refine inl @hI Tryz.func193 Tryz.ntmps193 rfl rfl ?_;cbv;repeat' first|exact O5|intro β;cbv|apply O4
   repeat (any_goals (simp only[a1,c1,c2];try (cbv;repeat' first|exact O5|intro β;cbv|apply O4)))
   ·exact Int.NonNeg.mk _
   exact hP (fun _=>0) [] _ _ rfl bM
 ·
   have a1:AR .conv .i64 5 0=5:=by rw[hA];rfl
   have c1:CM .lt 5 (Int.ofNat 23)=true:=O6;have c2:CM .lt 5 23=true:=O6;have c3:CM .le 0 5=true:=O6;have c4:CM .lt 0 23=true:=O6;cbv;repeat' first|exact O5|intro β;cbv|apply O4
   refine inl @hI Tryz.func194 Tryz.ntmps194 rfl rfl ?_;cbv;repeat' first|exact O5|intro β;cbv|apply O4
   repeat (any_goals (simp only[a1,c1,c2];try (cbv;repeat' first|exact O5|intro β;cbv|apply O4)))
   refine inl @hI Tryz.func193 Tryz.ntmps193 rfl rfl ?_;cbv;repeat' first|exact O5|intro β;cbv|apply O4
   repeat (any_goals (simp only[a1,c1,c2];try (cbv;repeat' first|exact O5|intro β;cbv|apply O4)))
   ·exact Int.NonNeg.mk _
   exact hP (fun _=>0) [] _ _ rfl bM
 ·
   have a1:AR .conv .i64 6 0=6:=by rw[hA];rfl
   have c1:CM .lt 6 (Int.ofNat 23)=true:=O6;have c2:CM .lt 6 23=true:=O6;have c3:CM .le 0 6=true:=O6;have c4:CM .lt 0 23=true:=O6;cbv;repeat' first|exact O5|intro β;cbv|apply O4
   refine inl @hI Tryz.func194 Tryz.ntmps194 rfl rfl ?_;cbv;repeat' first|exact O5|intro β;cbv|apply O4
   repeat (any_goals (simp only[a1,c1,c2];try (cbv;repeat' first|exact O5|intro β;cbv|apply O4)))
   refine inl @hI Tryz.func193 Tryz.ntmps193 rfl rfl ?_;cbv;repeat' first|exact O5|intro β;cbv|apply O4
   repeat (any_goals (simp only[a1,c1,c2];try (cbv;repeat' first|exact O5|intro β;cbv|apply O4)))
   ·exact Int.NonNeg.mk _
   exact hP (fun _=>0) [] _ _ rfl bM
 ·
   have a1:AR .conv .i64 8 0=8:=by rw[hA];rfl
   have c1:CM .lt 8 (Int.ofNat 23)=true:=O6;have c2:CM .lt 8 23=true:=O6;have c3:CM .le 0 8=true:=O6;have c4:CM .lt 0 23=true:=O6;cbv;repeat' first|exact O5|intro β;cbv|apply O4
   refine inl @hI Tryz.func194 Tryz.ntmps194 rfl rfl ?_;cbv;repeat' first|exact O5|intro β;cbv|apply O4
   repeat (any_goals (simp only[a1,c1,c2];try (cbv;repeat' first|exact O5|intro β;cbv|apply O4)))
   refine inl @hI Tryz.func193 Tryz.ntmps193 rfl rfl ?_;cbv;repeat' first|exact O5|intro β;cbv|apply O4
   repeat (any_goals (simp only[a1,c1,c2];try (cbv;repeat' first|exact O5|intro β;cbv|apply O4)))
   ·exact Int.NonNeg.mk _
   exact hP (fun _=>0) [] _ _ rfl bM
 ·
   have a1:AR .conv .i64 9 0=9:=by rw[hA];rfl
   have c1:CM .lt 9 (Int.ofNat 23)=true:=O6;have c2:CM .lt 9 23=true:=O6;have c3:CM .le 0 9=true:=O6;have c4:CM .lt 0 23=true:=O6;cbv;repeat' first|exact O5|intro β;cbv|apply O4
   refine inl @hI Tryz.func194 Tryz.ntmps194 rfl rfl ?_;cbv;repeat' first|exact O5|intro β;cbv|apply O4
   repeat (any_goals (simp only[a1,c1,c2];try (cbv;repeat' first|exact O5|intro β;cbv|apply O4)))
   refine inl @hI Tryz.func193 Tryz.ntmps193 rfl rfl ?_;cbv;repeat' first|exact O5|intro β;cbv|apply O4
   repeat (any_goals (simp only[a1,c1,c2];try (cbv;repeat' first|exact O5|intro β;cbv|apply O4)))
   ·exact Int.NonNeg.mk _
   exact hP (fun _=>0) [] _ _ rfl bM
def m145 (args:List SV):SM Pay (F4.X×List Nat):=match args with
 |[n]=>match bG n with
  |some (_,_,n)=>.ret (n,[])|none=>.fail
 |_=>.fail
theorem x145:cI 145:=⟨_,Tryz.func145,rfl,by decide⟩
def r145:aN:=⟨145,0,false,F4.app m145,F4.app_ok O8 m145,fun _ args base β β'=>rfl⟩
theorem qZ (p:Addr) (w:World) (b:Bool) (hc:w.cell? p=some (.bool b)) (hz:w.frozen? p=false):
  CallsD Tryz.prog 82 #[.pointer (some p)] .returning w fun e u' w'=>e=.returned (.tuple #[])∧u'=.returning∧w'=w.setCell p (.bool false):=by
 refine callsD_of_wpS Tryz.func82 rfl fun c₀ cs hu=>?_;apply wpS_region;simp[wpOpsS,go_sem,recoverD,hu,Tryz.ntmps82,Exit.thenS,hc,hz,bodyPostS,results,Tryz.results82];cases c₀;simp_all
theorem G1 {a0 a1 a2:Value} {w:World} {R S:World→Prop} (h:Calls Tryz.prog 70 #[a0,a1,a2] (w.alloc (Obj.cells #[Value.bool false] 4)) fun e w'=>False∨e=.returned (.tuple #[])∧w'.cell? ⟨w.heap.size,0,none⟩=some (.bool false)∧w'.frozen? ⟨w.heap.size,0,none⟩=false∧R w')
  (hS:∀w',R w'→S ((w'.setCell ⟨w.heap.size,0,none⟩ (.bool false)).setCell ⟨w.heap.size,0,none⟩ (.bool false))):
  Calls Tryz.prog 66 #[.func (.func 70) #[] #[a0,a1,a2]] w fun e w'=>False∨e=.returned (.bool false)∧S w':=by
 have hmf:∀(fn:Fn) (first cap:Array Value) (w:World),(Instr.makeFunc fn first cap).run Tryz.prog w=.ok (.func fn first cap) w:=fun _ _ _ _=>rfl
 go_enter_defers Tryz.func66,Tryz.ntmps66
 go_wp2_with (go_at_call 70;refine h.mono ?_;rintro e w2 (hF|⟨rfl,hc2,hz2,hR⟩))
 ·have hc3:(w2.setCell ⟨w.heap.size,0,none⟩ (.bool false)).cell? ⟨w.heap.size,0,none⟩=some (.bool false):=World.cell?_setCell_same _ _ _ hc2;have hz3:(w2.setCell ⟨w.heap.size,0,none⟩ (.bool false)).frozen? ⟨w.heap.size,0,none⟩=false:=by rw[World.frozen?_setCell];exact hz2
  refine leaves_cons (f:=82) (args:=#[.pointer (some ⟨w.heap.size,0,none⟩)]) (by simp) (by simp[go_sem]) ?_;refine(qZ ⟨w.heap.size,0,none⟩ _ false hc3 hz3).mono ?_;rintro e u' w'' ⟨rfl,rfl,rfl⟩;have hS2:=hS _ hR;have hc4:=World.cell?_setCell_same _ _ (.bool false) hc3;simp[Leaves,settle,results,Tryz.results66,go_sem,hc4];exact hS2
theorem DP {v0 v1 v2:SV} {heap:List C} {Q:List C→Prop} {K:SV→List C→Prop} (h:∀(K':SV→List C→Prop) (F:HProp),(∀hp,Q hp→K' (.tup []) hp)→inS Tryz.prog F 70 [v0,v1,v2] heap K')
  (hQ:∀hp,Q hp→K (.bl false) hp) (F:HProp):inS Tryz.prog F 66 [.fn (.func 70) [] [v0,v1,v2]] heap K:=by
 refine⟨⟨_,rfl,by decide+kernel,by decide⟩,fun w hs=>?_⟩;obtain⟨F1,hF1⟩:∃F1,F1=star (aG true w.heap.size 0 [Value.bool false]) (star (hdr w.heap.size 4 1) F):=⟨_,rfl⟩;have hs1:sat (w.alloc (Obj.cells #[Value.bool false] 4)) (star (big heap) F1):=by have:=eX (w:=w) true [Value.bool false] 4 hs;rw[hF1];exact aI this (by ac_rfl)
 have h1:=(h (fun v hp=>v=.tup []∧Q hp) F1 (fun hp hq=>⟨rfl,hq⟩)).2 _ hs1;have hsto:∀(w':World) (hp:List C),sat w' (star (big hp) F1)→sat (w'.setCell ⟨w.heap.size,0,none⟩ (.bool false)) (star (big hp) F1):=by intro w' hp h2;rw[hF1] at h2⊢;have h3:=aI (B:=star (aG true w.heap.size 0 [Value.bool false]) (star (big hp) (star (hdr w.heap.size 4 1) F))) h2 (by ac_rfl);have h4:=eC (v:=.bool false) [Value.bool false] 0 0 (by simp) h3;exact aI h4 (by ac_rfl)
 have h5:=G1 (w:=w) (a0:=v0.den) (a1:=v1.den) (a2:=v2.den) (R:=fun w'=>∃hp,Q hp∧sat w' (star (big hp) F1)) (S:=fun w'=>∃hp,Q hp∧sat w' (star (big hp) F)) (h1.mono ?_) ?_
 ·refine h5.mono fun e w' hR=>?_;rcases hR with h2|⟨h2,hp,hq,h3⟩
  ·exact .inl h2
  ·exact .inr ⟨.bl false,hp,hQ hp hq,h2,h3⟩
 ·rintro e w' (h2|⟨v,hp,⟨rfl,hq⟩,h3,h4⟩)
  ·exact .inl h2
  ·rw[hF1] at h4;have h6:=aI (B:=star (aG true w.heap.size 0 [Value.bool false]) (star (big hp) (star (hdr w.heap.size 4 1) F))) h4 (by ac_rfl);have hc:=aX _ 0 h6 0 (.bool false) rfl;refine .inr ⟨h3,hc.1,hc.2,hp,hq,?_⟩;rw[hF1];exact h4
 ·rintro w' ⟨hp,hq,h2⟩;refine⟨hp,hq,?_⟩;have h3:=hsto _ hp (hsto _ hp h2);rw[hF1] at h3;have h4:=aI (B:=star (aG true w.heap.size 0 [Value.bool false]) (star (hdr w.heap.size 4 1) (star (big hp) F))) h3 (by ac_rfl);exact h4.snd.snd
theorem JN {a0:Value} {w:World} {R S:World→Prop} (h:Calls Tryz.prog 67 #[a0] (w.alloc (Obj.cells #[Value.bool false] 4)) fun e w'=>False∨e=.returned (.tuple #[])∧w'.cell? ⟨w.heap.size,0,none⟩=some (.bool false)∧w'.frozen? ⟨w.heap.size,0,none⟩=false∧R w')
  (hS:∀w',R w'→S ((w'.setCell ⟨w.heap.size,0,none⟩ (.bool false)).setCell ⟨w.heap.size,0,none⟩ (.bool false))):
  Calls Tryz.prog 66 #[.func (.func 67) #[] #[a0]] w fun e w'=>False∨e=.returned (.bool false)∧S w':=by
 have hmf:∀(fn:Fn) (first cap:Array Value) (w:World),(Instr.makeFunc fn first cap).run Tryz.prog w=.ok (.func fn first cap) w:=fun _ _ _ _=>rfl
 go_enter_defers Tryz.func66,Tryz.ntmps66
 go_wp2_with (go_at_call 67;refine h.mono ?_;rintro e w2 (hF|⟨rfl,hc2,hz2,hR⟩))
 ·have hc3:(w2.setCell ⟨w.heap.size,0,none⟩ (.bool false)).cell? ⟨w.heap.size,0,none⟩=some (.bool false):=World.cell?_setCell_same _ _ _ hc2;have hz3:(w2.setCell ⟨w.heap.size,0,none⟩ (.bool false)).frozen? ⟨w.heap.size,0,none⟩=false:=by rw[World.frozen?_setCell];exact hz2
  refine leaves_cons (f:=82) (args:=#[.pointer (some ⟨w.heap.size,0,none⟩)]) (by simp) (by simp[go_sem]) ?_;refine(qZ ⟨w.heap.size,0,none⟩ _ false hc3 hz3).mono ?_;rintro e u' w'' ⟨rfl,rfl,rfl⟩;have hS2:=hS _ hR;have hc4:=World.cell?_setCell_same _ _ (.bool false) hc3;simp[Leaves,settle,results,Tryz.results66,go_sem,hc4];exact hS2
theorem N9 {v0:SV} {heap:List C} {Q:List C→Prop} {K:SV→List C→Prop} (h:∀(K':SV→List C→Prop) (F:HProp),(∀hp,Q hp→K' (.tup []) hp)→inS Tryz.prog F 67 [v0] heap K')
  (hQ:∀hp,Q hp→K (.bl false) hp) (F:HProp):inS Tryz.prog F 66 [.fn (.func 67) [] [v0]] heap K:=by
 refine⟨⟨_,rfl,by decide+kernel,by decide⟩,fun w hs=>?_⟩;obtain⟨F1,hF1⟩:∃F1,F1=star (aG true w.heap.size 0 [Value.bool false]) (star (hdr w.heap.size 4 1) F):=⟨_,rfl⟩;have hs1:sat (w.alloc (Obj.cells #[Value.bool false] 4)) (star (big heap) F1):=by have:=eX (w:=w) true [Value.bool false] 4 hs;rw[hF1];exact aI this (by ac_rfl)
 have h1:=(h (fun v hp=>v=.tup []∧Q hp) F1 (fun hp hq=>⟨rfl,hq⟩)).2 _ hs1;have hsto:∀(w':World) (hp:List C),sat w' (star (big hp) F1)→sat (w'.setCell ⟨w.heap.size,0,none⟩ (.bool false)) (star (big hp) F1):=by intro w' hp h2;rw[hF1] at h2⊢;have h3:=aI (B:=star (aG true w.heap.size 0 [Value.bool false]) (star (big hp) (star (hdr w.heap.size 4 1) F))) h2 (by ac_rfl);have h4:=eC (v:=.bool false) [Value.bool false] 0 0 (by simp) h3;exact aI h4 (by ac_rfl)
 have h5:=JN (w:=w) (a0:=v0.den) (R:=fun w'=>∃hp,Q hp∧sat w' (star (big hp) F1)) (S:=fun w'=>∃hp,Q hp∧sat w' (star (big hp) F)) (h1.mono ?_) ?_
 ·refine h5.mono fun e w' hR=>?_;rcases hR with h2|⟨h2,hp,hq,h3⟩
  ·exact .inl h2
  ·exact .inr ⟨.bl false,hp,hQ hp hq,h2,h3⟩
 ·rintro e w' (h2|⟨v,hp,⟨rfl,hq⟩,h3,h4⟩)
  ·exact .inl h2
  ·rw[hF1] at h4;have h6:=aI (B:=star (aG true w.heap.size 0 [Value.bool false]) (star (big hp) (star (hdr w.heap.size 4 1) F))) h4 (by ac_rfl);have hc:=aX _ 0 h6 0 (.bool false) rfl;refine .inr ⟨h3,hc.1,hc.2,hp,hq,?_⟩;rw[hF1];exact h4
 ·rintro w' ⟨hp,hq,h2⟩;refine⟨hp,hq,?_⟩;have h3:=hsto _ hp (hsto _ hp h2);rw[hF1] at h3;have h4:=aI (B:=star (aG true w.heap.size 0 [Value.bool false]) (star (hdr w.heap.size 4 1) (star (big hp) F))) h3 (by ac_rfl);exact h4.snd.snd
end Go.Sx
