/- Lemmas of the walk and plain facts (GsP1 .. GsP1). -/

namespace Gs
def Fu:List UInt8->List (List UInt8)
 |[]=>[[]]
 |c::t=>if c=47 then[]::Fu t else(c::(Fu t).headD [])::(Fu t).tail
def Zy (ps:List (List UInt8)) (s:List UInt8):List (List UInt8):=
 if s=[]\/s=[46] then ps else if s=[46,46] then ps.dropLast else ps++[s]
def Zz (ps:List (List UInt8)) (l:List (List UInt8)):List (List UInt8):=l.foldl Zy ps
def S4:List (List UInt8)->List UInt8
 |[]=>[]
 |p::ps=>47::(p++S4 ps)
def ZA (ps:List (List UInt8)):List UInt8:=if ps=[] then[47] else S4 ps
def tr (l:List (List UInt8)):Bool:=match l.getLast? with|some s=>decide (s=[46]\/(s=[]/\1<l.length))|none=>false
def clean (p:List UInt8):List UInt8:=
 let ps:=Zz [] (Fu p)
 ZA ps++(if tr (Fu p)/\ps≠[] then[47] else[])
def ld (p:List UInt8):Prop:=(Fu p).getLast? =some [46]
end Gs
